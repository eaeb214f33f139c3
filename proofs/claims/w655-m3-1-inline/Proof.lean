import JvmDerived
import JvmDerived.Pilot.@@N@@Statement
import JvmDerived.Pilot.@@N@@Code
set_option linter.unusedVariables false
set_option linter.unusedSimpArgs false
@@BLOCK:TracedD.lean.txt@@
namespace Jvm.Pilot.@@N@@
open Jvm Jvm.ClassFile Sem Op Lib Jvm.Free Jvm.Stand Jvm.LawKit Jvm.RoadKit Bundle Jvm.Pilot.@@N@@.Jvm.D
section Own
variable {p : Program} {l : Launch} {e : Env} {R : Room} {s : State} {m : MethodId} {args : Array Value} {below : List Frame} {meth : Method} {c : Code} {T T' : State} {locs : List Loc} {cells slots : Nat} {G : Outcome → State → Prop} {g g' : JFrame} {Z : State} {h h' h0 : Heap} {a b : Addr} {n0 : Nat} {Q : Option Value → Heap → List Loc → Prop} {CC SS : Nat}
/-- the run from T, with the frame g on top, ends as G wants it -/
def Win (p : Program) (e : Env) (below : List Frame) (G : Outcome → State → Prop) (T : State) (g : JFrame) : Prop :=
  ∃ s₂ o, Steps p.tables e below (T.setTop g) s₂ ∧ s₂.status = .running ∧ Ended s₂ below o ∧ G o s₂
theorem Win.st (W : Win p e below G T' g') (st : ∀ t, Steps p.tables e below (T'.setTop g') t → Steps p.tables e below (T.setTop g) t) : Win p e below G T g := by
  obtain ⟨s2, o, h1, h2⟩ := W
  exact ⟨s2, o, st _ h1, h2⟩
theorem Win.tr (W : Win p e below G T' g') (st : Steps p.tables e below (T.setTop g) (T'.setTop g')) : Win p e below G T g := by
  obtain ⟨s2, o, h1, h2⟩ := W
  exact ⟨s2, o, st.trans h1, h2⟩
/-- how a body ends: it returned v, Q of the value and the heap, the frame -/
def Ends (s : State) (Q : Option Value → Heap → List Loc → Prop) (CC SS : Nat) (o : Outcome) (U : State) : Prop := ∃ v L, o = .returned v ∧ Q v U.heap L ∧ FrameEnd s o U L CC SS
theorem Win.ret (X : Stand p l e R s m args below meth c T locs cells slots) (hx : p.tables.exec = Jvm.exec) (hlk : meth.locks = false) (eT : T.heap = h) {pc : Nat} {Ls : Array Slot} {w : Value} {t : FieldType} {i : Instr} {rest : List Value} (hret : meth.sig.returnType = some t) (hn : narrow t w = w)
    (hi : (i = .ireturn ∧ (t = .int ∨ t = .boolean ∨ t = .byte ∨ t = .char ∨ t = .short) ∧ ∃ z, w = .int z) ∨ (i = .lreturn ∧ t = .long ∧ ∃ z, w = .long z) ∨ (i = .dreturn ∧ t = .double ∧ ∃ z, w = .double z) ∨ (i = .freturn ∧ t = .float ∧ ∃ z, w = .float z) ∨ (i = .areturn ∧ t.isReference = true ∧ w.isRef = true))
    (hd : decode c.code pc = .ok (i, 1)) (hc : cells ≤ CC) (hs : slots ≤ SS) (hQ : Q (some w) h locs) : Win p e below (Ends s Q CC SS) T (mkF m pc Ls (w :: rest)) := by
  obtain ⟨fs, hr, hrun, hended, hW, hsame⟩ := X.leave (v := some w) (fun h => by rw [hret] at h; cases h) hlk
  subst eT
  exact ⟨_, _, retOut X hx hret hn hi hd hr, hrun, hended, _, _, rfl, hQ, ⟨_, rfl⟩, hW, hsame.mono hc hs⟩
theorem Win.retN (X : Stand p l e R s m args below meth c T locs cells slots) (hx : p.tables.exec = Jvm.exec) (hlk : meth.locks = false) (eT : T.heap = h) {pc : Nat} {Ls : Array Slot} {z z' : Int32} {t : FieldType} {rest : List Value} (hret : meth.sig.returnType = some t) (ht : t = .boolean ∨ t = .byte ∨ t = .char ∨ t = .short)
    (hd : decode c.code pc = .ok (.ireturn, 1)) (hc : cells ≤ CC) (hs : slots ≤ SS) (hz : nar t z = z') (hQ : Q (some (.int z')) h locs) : Win p e below (Ends s Q CC SS) T (mkF m pc Ls (.int z :: rest)) := by
  subst hz
  obtain ⟨fs, hr, hrun, hended, hW, hsame⟩ := X.leave (v := some (.int (nar t z))) (fun h => by rw [hret] at h; cases h) hlk
  subst eT
  exact ⟨_, _, Jvm.RoadKit.retN X hx hret ht hd hr, hrun, hended, _, _, rfl, hQ, ⟨_, rfl⟩, hW, hsame.mono hc hs⟩
theorem Win.retV (X : Stand p l e R s m args below meth c T locs cells slots) (hx : p.tables.exec = Jvm.exec) (hlk : meth.locks = false) (eT : T.heap = h) {pc : Nat} {Ls : Array Slot} (hret : meth.sig.returnType = none)
    (hd : decode c.code pc = .ok (.return_, 1)) (hc : cells ≤ CC) (hs : slots ≤ SS) (hQ : Q none h locs) : Win p e below (Ends s Q CC SS) T (mkF m pc Ls []) := by
  obtain ⟨fs, hr, hrun, hended, hW, hsame⟩ := X.leave (v := none) (fun _ => rfl) hlk
  subst eT
  exact ⟨_, _, X.returnOut hx hret hd hr, hrun, hended, _, _, rfl, hQ, ⟨_, rfl⟩, hW, hsame.mono hc hs⟩
theorem own_hide {k : Nat} {sl : Nat} (X : Stand p l e R s m args below meth c T (locs ++ [⟨a, sl⟩]) cells slots) (N : Fr k locs) (q : k ≤ a) : ∃ L, Stand p l e R s m args below meth c T L cells slots ∧ Fr k L := ⟨_, X, Fr.snoc X N q⟩
theorem own_kext (E : Ext h h') : Keep h h' [] := (Keep.refl h []).ext E
theorem own_new {x : Addr} (g : b = h.size) (q : x < h.size) : x ≠ b := Nat.ne_of_lt (g ▸ q)
theorem own_newle (Z0 : n0 ≤ h.size) (g : b = h.size) : n0 ≤ b := g ▸ Z0
theorem own_len {k : ClassId} {ty : FieldType} {z : Int32} {vs : List Value} {dv : Value} (V : Arv Z h a k ty z vs dv) : ¬ z < 0 := by obtain ⟨_, _, _, _, q, _⟩ := V; exact q
theorem own_alen {k : ClassId} {ty : FieldType} {z : Int32} {vs : List Value} {dv : Value} (X : Stand p l e R s m args below meth c T locs cells slots) (hx : p.tables.exec = Jvm.exec) (hZ : Z.Warmed39 s.vm) (eT : T.heap = h) (V : Arv Z h a k ty z vs dv) {rest : List Value} (hg : g.method = m) (hs : g.stack = .ref a :: rest) (hd : decode c.code g.pc = .ok (.arraylength, 1)) :
    ∀ target, Steps p.tables e below (T.setTop { g with pc := g.pc + 1, stack := .int z :: rest }) target → Steps p.tables e below (T.setTop g) target := by
  obtain ⟨cl, A, -, S, q, -, -⟩ := V
  intro t k
  refine X.arraylength hx (by rw [eT]; exact A.1) (State.isArrayOf_alike hZ.alike A.2.1) hg hs hd _ ?_
  rw [len_of S q]; exact k
theorem own_iald {k : ClassId} {z : Int32} {vs : List Value} {dv : Value} (X : Stand p l e R s m args below meth c T locs cells slots) (hx : p.tables.exec = Jvm.exec) (hZ : Z.Warmed39 s.vm) (eT : T.heap = h) (V : Arv Z h a k .int z vs dv) {j : Int32} {v : Value} (h1 : ¬ j < 0) (h2 : j < z) (hv : vs.getD j.toNatClampNeg dv = v) {rest : List Value} (hg : g.method = m) (hs : g.stack = .int j :: .ref a :: rest) (hd : decode c.code g.pc = .ok (.iaload, 1)) :
    ∀ target, Steps p.tables e below (T.setTop { g with pc := g.pc + 1, stack := v :: rest }) target → Steps p.tables e below (T.setTop g) target := by
  obtain ⟨cl, A, -, S, q, H, -⟩ := V
  have hin := inb_of S ⟨h1, h2⟩
  exact X.iaload hx (by rw [eT]; exact A.1) (State.isArrayOf_alike hZ.alike A.2.1) A.2.2 hin (H.at hin hv) hg hs hd
theorem own_bald {k : ClassId} {z : Int32} {vs : List Value} {dv : Value} (X : Stand p l e R s m args below meth c T locs cells slots) (hx : p.tables.exec = Jvm.exec) (hZ : Z.Warmed39 s.vm) (eT : T.heap = h) (V : Arv Z h a k .byte z vs dv) {j : Int32} {v : Value} (h1 : ¬ j < 0) (h2 : j < z) (hv : vs.getD j.toNatClampNeg dv = v) {rest : List Value} (hg : g.method = m) (hs : g.stack = .int j :: .ref a :: rest) (hd : decode c.code g.pc = .ok (.baload, 1)) :
    ∀ target, Steps p.tables e below (T.setTop { g with pc := g.pc + 1, stack := v :: rest }) target → Steps p.tables e below (T.setTop g) target := by
  obtain ⟨cl, A, -, S, q, H, -⟩ := V
  have hin := inb_of S ⟨h1, h2⟩
  exact X.baloadBytes hx (by rw [eT]; exact A.1) (State.isArrayOf_alike hZ.alike A.2.1) A.2.2 hin (H.at hin hv) hg hs hd
theorem own_cald {k : ClassId} {z : Int32} {vs : List Value} {dv : Value} (X : Stand p l e R s m args below meth c T locs cells slots) (hx : p.tables.exec = Jvm.exec) (hZ : Z.Warmed39 s.vm) (eT : T.heap = h) (V : Arv Z h a k .char z vs dv) {j : Int32} {v : Value} (h1 : ¬ j < 0) (h2 : j < z) (hv : vs.getD j.toNatClampNeg dv = v) {rest : List Value} (hg : g.method = m) (hs : g.stack = .int j :: .ref a :: rest) (hd : decode c.code g.pc = .ok (.caload, 1)) :
    ∀ target, Steps p.tables e below (T.setTop { g with pc := g.pc + 1, stack := v :: rest }) target → Steps p.tables e below (T.setTop g) target := by
  obtain ⟨cl, A, -, S, q, H, -⟩ := V
  have hin := inb_of S ⟨h1, h2⟩
  exact X.caload hx (by rw [eT]; exact A.1) (State.isArrayOf_alike hZ.alike A.2.1) A.2.2 hin (H.at hin hv) hg hs hd
theorem own_cast {k : ClassId} {z : Int32} {vs : List Value} {dv : Value} (X : Stand p l e R s m args below meth c T locs cells slots) (hx : p.tables.exec = Jvm.exec) (hZ : Z.Warmed39 s.vm) (eT : T.heap = h) (N : Fr n0 locs) (ge : n0 ≤ a) (V : Arv Z h a k .char z vs dv) {j x : Int32} (h1 : ¬ j < 0) (h2 : j < z) {i : Nat} (hj : j.toNatClampNeg = i) (hi : i < vs.length) {rest : List Value} (hg : g.method = m) (hs : g.stack = .int x :: .int j :: .ref a :: rest) (hd : decode c.code g.pc = .ok (.castore, 1)) :
    ∃ T' h' L, Stand p l e R s m args below meth c T' L cells slots ∧ Fr n0 L ∧ T'.heap = h' ∧ Keep h h' [a] ∧ Arv Z h' a k .char z (vs.set i (.int (x.toUInt32.toUInt16.toUInt32.toInt32))) dv ∧ ∀ target, Steps p.tables e below (T'.setTop { g with pc := g.pc + 1, stack := rest }) target → Steps p.tables e below (T.setTop g) target := by
  obtain ⟨cl, A, q1, S, q, H, Gf⟩ := V
  have hin := inb_of S ⟨h1, h2⟩
  obtain ⟨T', h', X', e', W, st⟩ := stC X hx hZ eT A hin hg hs hd
  exact ⟨T', h', _, X', Fr.snoc X' N ge, e', Keep.of_wr W, Arv.set A q1 S q H Gf (fits_nar_char x) W i hj hi, st⟩
theorem own_iast {k : ClassId} {z : Int32} {vs : List Value} {dv : Value} (X : Stand p l e R s m args below meth c T locs cells slots) (hx : p.tables.exec = Jvm.exec) (hZ : Z.Warmed39 s.vm) (eT : T.heap = h) (N : Fr n0 locs) (ge : n0 ≤ a) (V : Arv Z h a k .int z vs dv) {j x : Int32} (h1 : ¬ j < 0) (h2 : j < z) {i : Nat} (hj : j.toNatClampNeg = i) (hi : i < vs.length) {rest : List Value} (hg : g.method = m) (hs : g.stack = .int x :: .int j :: .ref a :: rest) (hd : decode c.code g.pc = .ok (.iastore, 1)) :
    ∃ T' h' L, Stand p l e R s m args below meth c T' L cells slots ∧ Fr n0 L ∧ T'.heap = h' ∧ Keep h h' [a] ∧ Arv Z h' a k .int z (vs.set i (.int x)) dv ∧ ∀ target, Steps p.tables e below (T'.setTop { g with pc := g.pc + 1, stack := rest }) target → Steps p.tables e below (T.setTop g) target := by
  obtain ⟨cl, A, q1, S, q, H, Gf⟩ := V
  have hin := inb_of S ⟨h1, h2⟩
  obtain ⟨T', h', X', e', W, st⟩ := stI X hx hZ eT A hin hg hs hd
  exact ⟨T', h', _, X', Fr.snoc X' N ge, e', Keep.of_wr W, Arv.set A q1 S q H Gf rfl W i hj hi, st⟩
theorem own_bast {k : ClassId} {z : Int32} {vs : List Value} {dv : Value} (X : Stand p l e R s m args below meth c T locs cells slots) (hx : p.tables.exec = Jvm.exec) (hZ : Z.Warmed39 s.vm) (eT : T.heap = h) (N : Fr n0 locs) (ge : n0 ≤ a) (V : Arv Z h a k .byte z vs dv) {j x : Int32} (h1 : ¬ j < 0) (h2 : j < z) {i : Nat} (hj : j.toNatClampNeg = i) (hi : i < vs.length) {rest : List Value} (hg : g.method = m) (hs : g.stack = .int x :: .int j :: .ref a :: rest) (hd : decode c.code g.pc = .ok (.bastore, 1)) :
    ∃ T' h' L, Stand p l e R s m args below meth c T' L cells slots ∧ Fr n0 L ∧ T'.heap = h' ∧ Keep h h' [a] ∧ Arv Z h' a k .byte z (vs.set i (.int x.toInt8.toInt32)) dv ∧ ∀ target, Steps p.tables e below (T'.setTop { g with pc := g.pc + 1, stack := rest }) target → Steps p.tables e below (T.setTop g) target := by
  obtain ⟨cl, A, q1, S, q, H, Gf⟩ := V
  have hin := inb_of S ⟨h1, h2⟩
  obtain ⟨T', h', X', e', W, st⟩ := stB X hx hZ eT A hin hg hs hd
  exact ⟨T', h', _, X', Fr.snoc X' N ge, e', Keep.of_wr W, Arv.set A q1 S q H Gf (fits_nar_byte x) W i hj hi, st⟩
/-- how a body ends that may have interned a String -/
def EndsW (s : State) (Q : Option Value → Heap → List Loc → Prop) (CC SS : Nat) (o : Outcome) (U : State) : Prop := ∃ v L, o = .returned v ∧ Q v U.heap L ∧ ReturnedEndW s o U L CC SS
theorem Win.retNW {vm₁ : Vm} {k1 : Nat} (X : Stand p l e R (s.setVm vm₁) m args below meth c T locs cells slots) (hS : s.Since vm₁ k1) (hk : k1 ≤ h.size) (hx : p.tables.exec = Jvm.exec) (hlk : meth.locks = false) (eT : T.heap = h) {pc : Nat} {Ls : Array Slot} {z z' : Int32} {t : FieldType} {rest : List Value} (hret : meth.sig.returnType = some t) (ht : t = .boolean ∨ t = .byte ∨ t = .char ∨ t = .short)
    (hd : decode c.code pc = .ok (.ireturn, 1)) (hc : cells ≤ CC) (hs : slots ≤ SS) (hz : nar t z = z') (hQ : Q (some (.int z')) h locs) : Win p e below (EndsW s Q CC SS) T (mkF m pc Ls (.int z :: rest)) := by
  subst hz
  subst eT
  obtain ⟨fs, hr, hrun, hended, h1, h2, h3, h4⟩ := X.leaveW hS hk (v := some (.int (nar t z))) (fun h => by rw [hret] at h; cases h) hlk
  exact ⟨_, _, Jvm.RoadKit.retN X hx hret ht hd hr, hrun, hended, _, _, rfl, hQ, h1, h2, h3, h4.mono hc hs⟩
theorem Win.retVW {vm₁ : Vm} {k1 : Nat} (X : Stand p l e R (s.setVm vm₁) m args below meth c T locs cells slots) (hS : s.Since vm₁ k1) (hk : k1 ≤ h.size) (hx : p.tables.exec = Jvm.exec) (hlk : meth.locks = false) (eT : T.heap = h) {pc : Nat} {Ls : Array Slot} (hret : meth.sig.returnType = none)
    (hd : decode c.code pc = .ok (.return_, 1)) (hc : cells ≤ CC) (hs : slots ≤ SS) (hQ : Q none h locs) : Win p e below (EndsW s Q CC SS) T (mkF m pc Ls []) := by
  subst eT
  obtain ⟨fs, hr, hrun, hended, h1, h2, h3, h4⟩ := X.leaveW hS hk (v := none) (fun _ => rfl) hlk
  exact ⟨_, _, X.returnOut hx hret hd hr, hrun, hended, _, _, rfl, hQ, h1, h2, h3, h4.mono hc hs⟩
theorem Win.retRW {vm₁ : Vm} {k1 : Nat} (X : Stand p l e R (s.setVm vm₁) m args below meth c T locs cells slots) (hS : s.Since vm₁ k1) (hk : k1 ≤ h.size) (hx : p.tables.exec = Jvm.exec) (hlk : meth.locks = false) (eT : T.heap = h) {pc : Nat} {Ls : Array Slot} {w : Value} {t : FieldType} {rest : List Value} (hret : meth.sig.returnType = some t) (ht : t.isReference = true) (hw : w.isRef = true) (hn : narrow t w = w)
    (hd : decode c.code pc = .ok (.areturn, 1)) (hc : cells ≤ CC) (hs : slots ≤ SS) (hQ : Q (some w) h locs) : Win p e below (EndsW s Q CC SS) T (mkF m pc Ls (w :: rest)) := by
  subst eT
  obtain ⟨fs, hr, hrun, hended, h1, h2, h3, h4⟩ := X.leaveW hS hk (v := some w) (fun h => by rw [hret] at h; cases h) hlk
  exact ⟨_, _, retOut X hx hret hn (Or.inr (Or.inr (Or.inr (Or.inr ⟨rfl, ht, hw⟩)))) hd hr, hrun, hended, _, _, rfl, hQ, h1, h2, h3, h4.mono hc hs⟩
/-- RoadKit's backOfSH for a callee that asks the invariant and doesn't give it back -/
theorem own_backOfSP {a0 : Array Value} {EL : List (String × Nat)} {vm0 : Vm} {y : MethodName} {bytes : ByteArray} {maxL : Nat} {ret : Option FieldType} {rm : Room} {len W : Nat} {as' : Array Value} {Q : Option Value → Heap → List Loc → Prop}
    (hM : MetFree l y (head1 [Jvm.Cond.code y bytes maxL ret] rm) (fun a U => a = as' ∧ Z.Warmed39 U.vm ∧ U.heap = h ∧ CHv Z EL U.vm h) (fun _ _ _ _ _ => True) (fun _ U o U' => ∃ v L, o = .returned v ∧ Q v U'.heap L ∧ ReturnedEndW U o U' L rm.cells rm.slots))
    (hZ : Z.Warmed39 vm0) (wc : (Jvm.Cond.code y bytes maxL ret).before a0 Z = true) (wz : (Jvm.Cond.initialized y.cls).before a0 Z = true) (hf : rm.frames + 1 ≤ R.frames) (hl : W + (maxL + 11) + rm.locals ≤ R.locals) (hEL : EW Z a0 EL) (H : CHv Z EL vm0 h) :
    BackS l R p e below (s.setVm vm0) args y len W (fun A a => a = as' ∧ A.U.heap = h ∧ A.cells + rm.cells ≤ R.cells ∧ A.slots + rm.slots ≤ R.slots)
      (fun A _ v B => ∃ L, Q v B.U.heap L ∧ B.locs = A.locs ++ L ∧ B.cells = A.cells + rm.cells ∧ B.slots = A.slots + rm.slots) :=
  BackS.of_freeW (bytes := bytes) (maxL := maxL) (ret := ret) (E := fun _ _ o t L k n => k = rm.cells ∧ n = rm.slots ∧ ∃ v, o = .returned v ∧ Q v t.heap L) hM hf hl
    (fun m meth c A a Y hp => have hU : Z.Warmed39 A.U.vm := wtrans (s := s.setVm vm0) hZ Y.warmed
      ⟨by show (Jvm.Cond.and _ .tt).before a A.U = true; rw [Cond.before_and, mv hU wc]; rfl, mv hU wc, mv hU wz, hp.2.2.1, hp.2.2.2⟩)
    (fun m meth c A a g mk Y hp => ⟨hp.1, wtrans (s := s.setVm vm0) hZ Y.warmed, hp.2.1, (CHv.at Y hZ hEL H).1⟩) (fun _ _ _ _ _ _ _ _ _ => trivial)
    (fun _ _ _ _ ⟨v, L, h1, h2, h3⟩ => ⟨L, _, _, h3, rfl, rfl, v, h1, h2⟩)
    (fun m meth c A a g mk v t L k n Y hp _ _ ⟨e1, e2, v', e3, e4⟩ => by cases e3; subst e1 e2; exact ⟨L, e4, rfl, rfl, rfl⟩)
theorem own_sta_keep {C n d : String} {v : Value} (F : Sta Z h C n d v) (K : Keep h h' []) : Sta Z h' C n d v := by
  obtain ⟨cf, i, k, f, st, cell, h1, h2, h3, h4, h5, r⟩ := F
  exact ⟨cf, i, k, f, st, cell, h1, h2, h3, h4, K.2.1 _ _ h5 nin0, r⟩
theorem own_nar_ref {u : Value} {C : String} (hu : u.isRef = true) : narrow (.object C) u = u := by rcases ref_cases hu with rfl | ⟨z, rfl⟩ <;> rfl
theorem own_fit_ref {u : Value} {C : String} (hu : u.isRef = true) : fits (.object C) u = true := by rcases ref_cases hu with rfl | ⟨z, rfl⟩ <;> rfl
theorem own_no {a0 : Array Value} {C K O : String} {n : Nat} (w : (Jvm.Cond.superclass C O).before a0 Z = true) (wo : (Jvm.Cond.noSuperclass O).before a0 Z = true) (wk : (Jvm.Cond.instantiable K n).before a0 Z = true) (h1 : C ≠ K) (h2 : O ≠ K) : ∃ c t, Z.vm.findClass C = some c ∧ Z.vm.findClass K = some t ∧ Z.vm.assignable c t = false := by
  obtain ⟨o, ko, o1, o2, o3, -, -⟩ := Cond.noSuperclass_spec wo
  obtain ⟨t, kt, t1, t2, t3, t4, -⟩ := Cond.instantiable_spec wk
  obtain ⟨c, c0⟩ := found_sup w
  obtain ⟨p, k, kp, p1, p2, p3, p4, p5, -, p7⟩ := Cond.superclass_spec c0 w
  cases o1.symm.trans p1
  have ne1 := ids_ne c0 t1 h1
  have ne2 := ids_ne o1 t1 h2
  simp only [Bool.or_eq_false_iff] at t4
  have n3 : ∀ fuel, Z.vm.isSubclassAux fuel c t = false := fun fuel => by
    match fuel with
    | 0 => rfl
    | 1 => simp [Vm.isSubclassAux, ne1, p2, p4]
    | f + 2 => simp [Vm.isSubclassAux, ne1, ne2, p2, p4, o2, o3]
  refine ⟨c, t, c0, t1, ?_⟩
  show Z.vm.assignableAux (255 + 1) c t = false
  simp [Vm.assignableAux, ne1, p2, t2, p5, t3, t4.1, Vm.isSubclass, n3]
theorem own_selp {y : MethodName} {n : Nat} (hi : (Jvm.Cond.instantiable y.cls n).before args s = true) (hp : s.PrivateAt y) (hm : (Jvm.Cond.instanceMethod y).before args s = true) (hy : y.cls ≠ "java/lang/invoke/MethodHandle" ∧ y.cls ≠ "java/lang/invoke/VarHandle") : (Jvm.Cond.selects y.cls y y).before args s = true := by
  obtain ⟨c, k, h1, h2, h3, h4, -⟩ := Cond.instantiable_spec hi
  exact selects_self_of_private h1 h2 (by simp only [Bool.or_eq_false_iff] at h4; exact h4.1) hp hm hy
end Own
theorem ow {Z : State} {a0 : Array Value} (hw : ∀ d ∈ tables_1, d.before a0 Z = true) (i : Nat) {d : Jvm.Cond} (h : tables_1[i]? = some d) : d.before a0 Z = true := hw d (List.mem_of_getElem? h)
set_option maxRecDepth 65536
set_option maxHeartbeats 40000000
theorem wz {n W : Nat} (h : n = W) : 2 * 0 + n ≤ W := by omega
section OwnW
variable {p : Program} {l : Launch} {e : Env} {R : Room} {s : State} {m : MethodId} {args : Array Value} {below : List Frame} {meth : Method} {c : Code} {T : State} {locs : List Loc} {cells slots : Nat} {G : Outcome → State → Prop} {g : JFrame}
theorem w_aloadN (X : Stand p l e R s g.method args below meth c T locs cells slots) (hx : p.tables.exec = Jvm.exec) {bs : ByteArray} (hb : c.code = bs) {k : Fin 4} {v : Value} (hd : decode bs g.pc = .ok (.aload_n k, 1)) (hl : g.locals[k.val]? = some (.val v)) (hv : v.isRef = true) (W : Win p e below G T { g with pc := g.pc + 1, stack := v :: g.stack }) : Win p e below G T g := Win.st W (fun _ k => XS.aloadN X.here hx rfl (by rw [hb]; exact hd) hl hv k)
theorem w_aload (X : Stand p l e R s g.method args below meth c T locs cells slots) (hx : p.tables.exec = Jvm.exec) {bs : ByteArray} (hb : c.code = bs) {k : Nat} {v : Value} (hd : decode bs g.pc = .ok (.aload k, 2)) (hl : g.locals[k]? = some (.val v)) (hv : v.isRef = true) (W : Win p e below G T { g with pc := g.pc + 2, stack := v :: g.stack }) : Win p e below G T g := Win.st W (fun _ k => XS.aload X.here hx rfl (by rw [hb]; exact hd) hl hv k)
theorem w_iloadN (X : Stand p l e R s g.method args below meth c T locs cells slots) (hx : p.tables.exec = Jvm.exec) {bs : ByteArray} (hb : c.code = bs) {k : Fin 4} {v : Int32} (hd : decode bs g.pc = .ok (.iload_n k, 1)) (hl : g.locals[k.val]? = some (.val (.int v))) (W : Win p e below G T { g with pc := g.pc + 1, stack := .int v :: g.stack }) : Win p e below G T g := Win.st W (fun _ k => XS.iloadN X.here hx rfl (by rw [hb]; exact hd) hl k)
theorem w_iload (X : Stand p l e R s g.method args below meth c T locs cells slots) (hx : p.tables.exec = Jvm.exec) {bs : ByteArray} (hb : c.code = bs) {k : Nat} {v : Int32} (hd : decode bs g.pc = .ok (.iload k, 2)) (hl : g.locals[k]? = some (.val (.int v))) (W : Win p e below G T { g with pc := g.pc + 2, stack := .int v :: g.stack }) : Win p e below G T g := Win.st W (fun _ k => XS.iload X.here hx rfl (by rw [hb]; exact hd) hl k)
theorem w_iconst (X : Stand p l e R s g.method args below meth c T locs cells slots) (hx : p.tables.exec = Jvm.exec) {bs : ByteArray} (hb : c.code = bs) {i : Int} (hd : decode bs g.pc = .ok (.iconst i, 1)) (W : Win p e below G T { g with pc := g.pc + 1, stack := .int (Int32.ofInt i) :: g.stack }) : Win p e below G T g := Win.st W (fun _ k => XS.iconst X.here hx rfl (by rw [hb]; exact hd) k)
theorem w_bipush (X : Stand p l e R s g.method args below meth c T locs cells slots) (hx : p.tables.exec = Jvm.exec) {bs : ByteArray} (hb : c.code = bs) {i : Int} (hd : decode bs g.pc = .ok (.bipush i, 2)) (W : Win p e below G T { g with pc := g.pc + 2, stack := .int (Int8.ofInt i).toInt32 :: g.stack }) : Win p e below G T g := Win.st W (fun _ k => XS.bipush X.here hx rfl (by rw [hb]; exact hd) k)
theorem w_sipush (X : Stand p l e R s g.method args below meth c T locs cells slots) (hx : p.tables.exec = Jvm.exec) {bs : ByteArray} (hb : c.code = bs) {i : Int} (hd : decode bs g.pc = .ok (.sipush i, 3)) (W : Win p e below G T { g with pc := g.pc + 3, stack := .int (Int16.ofInt i).toInt32 :: g.stack }) : Win p e below G T g := Win.st W (fun _ k => XS.sipush X.here hx rfl (by rw [hb]; exact hd) k)
end OwnW
section Own2
variable {p : Program} {l : Launch} {e : Env} {R : Room} {s : State} {m : MethodId} {args : Array Value} {below : List Frame} {meth : Method} {c : Code} {T : State} {locs : List Loc} {cells slots : Nat} {g : JFrame} {Z : State} {h h' h0 : Heap} {a0 : Array Value} {EL : List (String × Nat)} {vm0 : Vm} {CC SS : Nat} {Q : Option Value → Heap → List Loc → Prop} {RR : Vm → Heap → Vm → Heap → Prop}
/-- how a body ends that may have interned a String, and what it says of the tables -/
def EndsX (RR : Vm → Heap → Vm → Heap → Prop) (s : State) (Q : Option Value → Heap → List Loc → Prop) (CC SS : Nat) (o : Outcome) (U : State) : Prop := ∃ v L, o = .returned v ∧ Q v U.heap L ∧ RR s.vm s.heap U.vm U.heap ∧ ReturnedEndW s o U L CC SS
def own_RT (_ : Vm) (_ : Heap) (_ : Vm) (_ : Heap) : Prop := True
theorem Win.retNX {vm₁ : Vm} {k1 : Nat} (X : Stand p l e R (s.setVm vm₁) m args below meth c T locs cells slots) (hS : s.Since vm₁ k1) (hk : k1 ≤ h.size) (hx : p.tables.exec = Jvm.exec) (hlk : meth.locks = false) (eT : T.heap = h) {pc : Nat} {Ls : Array Slot} {z z' : Int32} {t : FieldType} {rest : List Value} (hret : meth.sig.returnType = some t) (ht : t = .boolean ∨ t = .byte ∨ t = .char ∨ t = .short)
    (hd : decode c.code pc = .ok (.ireturn, 1)) (hc : cells ≤ CC) (hs : slots ≤ SS) (hz : nar t z = z') (hR : RR s.vm s.heap T.vm h) (hQ : Q (some (.int z')) h locs) : Win p e below (EndsX RR s Q CC SS) T (mkF m pc Ls (.int z :: rest)) := by
  subst hz
  subst eT
  obtain ⟨fs, hr, hrun, hended, h1, h2, h3, h4⟩ := X.leaveW hS hk (v := some (.int (nar t z))) (fun h => by rw [hret] at h; cases h) hlk
  exact ⟨_, _, Jvm.RoadKit.retN X hx hret ht hd hr, hrun, hended, _, _, rfl, hQ, hR, h1, h2, h3, h4.mono hc hs⟩
theorem Win.retVX {vm₁ : Vm} {k1 : Nat} (X : Stand p l e R (s.setVm vm₁) m args below meth c T locs cells slots) (hS : s.Since vm₁ k1) (hk : k1 ≤ h.size) (hx : p.tables.exec = Jvm.exec) (hlk : meth.locks = false) (eT : T.heap = h) {pc : Nat} {Ls : Array Slot} (hret : meth.sig.returnType = none)
    (hd : decode c.code pc = .ok (.return_, 1)) (hc : cells ≤ CC) (hs : slots ≤ SS) (hR : RR s.vm s.heap T.vm h) (hQ : Q none h locs) : Win p e below (EndsX RR s Q CC SS) T (mkF m pc Ls []) := by
  subst eT
  obtain ⟨fs, hr, hrun, hended, h1, h2, h3, h4⟩ := X.leaveW hS hk (v := none) (fun _ => rfl) hlk
  exact ⟨_, _, X.returnOut hx hret hd hr, hrun, hended, _, _, rfl, hQ, hR, h1, h2, h3, h4.mono hc hs⟩
theorem Win.retRX {vm₁ : Vm} {k1 : Nat} (X : Stand p l e R (s.setVm vm₁) m args below meth c T locs cells slots) (hS : s.Since vm₁ k1) (hk : k1 ≤ h.size) (hx : p.tables.exec = Jvm.exec) (hlk : meth.locks = false) (eT : T.heap = h) {pc : Nat} {Ls : Array Slot} {w : Value} {t : FieldType} {rest : List Value} (hret : meth.sig.returnType = some t) (ht : t.isReference = true) (hw : w.isRef = true) (hn : narrow t w = w)
    (hd : decode c.code pc = .ok (.areturn, 1)) (hc : cells ≤ CC) (hs : slots ≤ SS) (hR : RR s.vm s.heap T.vm h) (hQ : Q (some w) h locs) : Win p e below (EndsX RR s Q CC SS) T (mkF m pc Ls (w :: rest)) := by
  subst eT
  obtain ⟨fs, hr, hrun, hended, h1, h2, h3, h4⟩ := X.leaveW hS hk (v := some w) (fun h => by rw [hret] at h; cases h) hlk
  exact ⟨_, _, retOut X hx hret hn (Or.inr (Or.inr (Or.inr (Or.inr ⟨rfl, ht, hw⟩)))) hd hr, hrun, hended, _, _, rfl, hQ, hR, h1, h2, h3, h4.mono hc hs⟩
/-- a callee that may intern, that asks and keeps the invariant on the read constants, under known frames -/
theorem own_backX {y : MethodName} {bytes : ByteArray} {maxL : Nat} {ret : Option FieldType} {rm : Room} {len W : Nat} {as' : Array Value} {xs : List Addr}
    (hM : MetFree l y (head1 [Jvm.Cond.code y bytes maxL ret] rm) (fun a U => a = as' ∧ Z.Warmed39 U.vm ∧ U.heap = h ∧ CHv Z EL U.vm h ∧ ∀ x ∈ xs, Safe Z EL U.vm h x) (fun _ _ bl s _ => s.vm.MethodsKnown ∧ s.vm.FramesKnown bl) (fun _ U o U' => ∃ v L, o = .returned v ∧ Q v U'.heap L ∧ RR U.vm U.heap U'.vm U'.heap ∧ ReturnedEndW U o U' L rm.cells rm.slots))
    (hRR : ∀ vm1 vm2 h2, CHr Z EL vm0 h vm1 h → RR vm1 h vm2 h2 → RR vm0 h vm2 h2)
    (hZ : Z.Warmed39 vm0) (wc : (Jvm.Cond.code y bytes maxL ret).before a0 Z = true) (wz : (Jvm.Cond.initialized y.cls).before a0 Z = true) (hf : rm.frames + 1 ≤ R.frames) (hl : W + (maxL + 11) + rm.locals ≤ R.locals) (hEL : EW Z a0 EL) (H : CHv Z EL vm0 h) (hxs : ∀ x ∈ xs, x < h.size ∧ Safe Z EL vm0 h x) (hTK : vm0.MethodsKnown) (hBelow : vm0.FramesKnown below) :
    BackS l R p e below (s.setVm vm0) args y len W (fun A a => a = as' ∧ A.U.heap = h ∧ A.cells + rm.cells ≤ R.cells ∧ A.slots + rm.slots ≤ R.slots)
      (fun A _ v B => ∃ L, Q v B.U.heap L ∧ B.locs = A.locs ++ L ∧ B.cells = A.cells + rm.cells ∧ B.slots = A.slots + rm.slots ∧ RR vm0 h B.U.vm B.U.heap) :=
  BackS.of_freeWG (bytes := bytes) (maxL := maxL) (ret := ret) (E := fun _ first o t L k n => k = rm.cells ∧ n = rm.slots ∧ (∃ v, o = .returned v ∧ Q v t.heap L) ∧ RR first.vm first.heap t.vm t.heap) hM hf hl
    (fun m meth c A a Y hp => have hU : Z.Warmed39 A.U.vm := wtrans (s := s.setVm vm0) hZ Y.warmed
      ⟨by show (Jvm.Cond.and _ .tt).before a A.U = true; rw [Cond.before_and, mv hU wc]; rfl, mv hU wc, mv hU wz, hp.2.2.1, hp.2.2.2⟩)
    (fun m meth c A a g mk Y hp => ⟨hp.1, wtrans (s := s.setVm vm0) hZ Y.warmed, hp.2.1, (CHv.at Y hZ hEL H).1, fun x hx => (CHv.at Y hZ hEL H).safe (hxs x hx).1 (hxs x hx).2⟩)
    (fun m meth c A a g mk Y _ hg => known_frames (s := s.setVm vm0) Y hg hTK hBelow)
    (fun _ _ _ _ ⟨v, L, h1, h2, h3, h4⟩ => ⟨L, _, _, h4, rfl, rfl, ⟨v, h1, h2⟩, h3⟩)
    (fun m meth c A a g mk v t L k n Y hp _ _ ⟨e1, e2, ⟨v', e3, e4⟩, e5⟩ => by
      cases e3; subst e1 e2
      refine ⟨L, e4, rfl, rfl, rfl, hRR _ _ _ (CHv.at Y hZ hEL H) ?_⟩
      rw [← hp.2.1]; exact e5)
/-- a callee that loads a constant which is resolved already -/
theorem own_backL {y : MethodName} {bytes : ByteArray} {maxL : Nat} {ret : Option FieldType} {rm : Room} {len W : Nat} {as' : Array Value} {own : String} {ix : Nat} {li : Addr}
    (hM : MetFree l y (head1 [Jvm.Cond.code y bytes maxL ret] rm) (fun a U => a = as' ∧ Z.Warmed39 U.vm ∧ U.heap = h ∧ Lit U own ix li) (fun _ _ _ _ _ => True) (fun _ U o U' => ∃ v L, o = .returned v ∧ Q v U'.heap L ∧ FrameEnd U o U' L rm.cells rm.slots))
    (hZ : Z.Warmed39 s.vm) (wc : (Jvm.Cond.code y bytes maxL ret).before a0 Z = true) (wz : (Jvm.Cond.initialized y.cls).before a0 Z = true) (hf : rm.frames + 1 ≤ R.frames) (hl : W + (maxL + 11) + rm.locals ≤ R.locals) (hL : Lit s own ix li) :
    Back l R p e below s args y len W (fun A a => a = as' ∧ A.U.heap = h ∧ A.cells + rm.cells ≤ R.cells ∧ A.slots + rm.slots ≤ R.slots)
      (fun A _ v B => ∃ L, Q v B.U.heap L ∧ B.locs = A.locs ++ L ∧ B.cells = A.cells + rm.cells ∧ B.slots = A.slots + rm.slots) :=
  Back.of_free (bytes := bytes) (maxL := maxL) (ret := ret) (E := fun _ _ o t L k n => k = rm.cells ∧ n = rm.slots ∧ ∃ v, o = .returned v ∧ Q v t.heap L) hM hf hl
    (fun m meth c A a Y hp => have hU : Z.Warmed39 A.U.vm := wtrans hZ Y.warmed
      ⟨by show (Jvm.Cond.and _ .tt).before a A.U = true; rw [Cond.before_and, mv hU wc]; rfl, mv hU wc, mv hU wz, hp.2.2.1, hp.2.2.2⟩)
    (fun m meth c A a g mk Y hp => ⟨hp.1, wtrans hZ Y.warmed, hp.2.1, State.resolvedAt?_warmed39 (s := s) (wtrans (State.Warmed39.refl s) Y.warmed) hL⟩) (fun _ _ _ _ _ _ _ _ _ => trivial)
    (fun _ _ _ _ ⟨v, L, h1, h2, h3⟩ => ⟨L, _, _, h3, rfl, rfl, v, h1, h2⟩)
    (fun m meth c A a g mk v t L k n Y hp _ _ ⟨e1, e2, v', e3, e4⟩ => by cases e3; subst e1 e2; exact ⟨L, e4, rfl, rfl, rfl⟩)
/-- a private method selects itself from its own class, where 'selects' tells so of a class beneath -/
theorem own_selC {y : MethodName} {C : String} (hs : (Jvm.Cond.selects C y y).before args s = true) (hp : s.PrivateAt y) (hm : (Jvm.Cond.instanceMethod y).before args s = true) (hy : y.cls ≠ "java/lang/invoke/MethodHandle" ∧ y.cls ≠ "java/lang/invoke/VarHandle") : (Jvm.Cond.selects y.cls y y).before args s = true := by
  obtain ⟨c2, r2, m2, -, -, q3, -, kP, hkP, hkPi⟩ := Cond.selects_spec hs
  exact selects_self_of_private (findClass_of_methodNamed q3) hkP hkPi hp hm hy
/-- the library's virtualBack for a method that the named class only inherits -/
theorem own_virtU (X : Stand p l e R s m args below meth c T locs cells slots) (hexec : p.tables.exec = Jvm.exec) {own owner C : String} {index : Nat} {y z : MethodName}
    (hown : s.vm.findClass own = some m.cls) (hlink : (Jvm.Cond.methodLink own index y).before args s = true) (hsame : (Jvm.Cond.sameMethod y.cls owner y.name y.desc).before args s = true) (howner : owner ≠ "java/lang/invoke/MethodHandle" ∧ owner ≠ "java/lang/invoke/VarHandle") (hdecl : (Jvm.Cond.declares ⟨owner, y.name, y.desc⟩).before args s = true)
    (hsel : (Jvm.Cond.selects C y z).before args s = true) (hinst : (Jvm.Cond.instanceMethod z).before args s = true)
    {W : Nat} {Pre : Pt → Array Value → Prop} {Post : Pt → Array Value → Option Value → Pt → Prop} (hK : Back l R p e below s args z 3 W Pre Post)
    {b : Addr} {cB : ClassId} (hcB : s.vm.findClass C = some cB) (hrecv : IsOf cB T b)
    {g : JFrame} (hg : g.method = m) (hsize : g.locals.size = c.maxLocals) {s₀ : State} (hcome : Steps p.tables e below s₀ (T.setTop g)) {argsL rest : List Value}
    (hlen : ∀ sig, parseMethodDescriptor y.desc = some sig → argsL.length = sig.parameters.length) (hstack : g.stack = argsL.reverse ++ .ref b :: rest) (hW : 2 * g.monitorRoom + (rest.map fun v => v.category).sum ≤ W)
    (hdg : decode c.code g.pc = .ok (.invokevirtual index, 3)) (hpre : ∀ vm₁, s.WarmedH vm₁ → Pre ⟨T.setVm vm₁, locs, cells, slots⟩ (.ref b :: argsL).toArray) :
    ∃ (v : Option Value) (vm₁ : Vm) (B : Pt), s.WarmedH vm₁ ∧ Stand p l e R s m args below meth c B.U B.locs B.cells B.slots ∧ Post ⟨T.setVm vm₁, locs, cells, slots⟩ (.ref b :: argsL).toArray v B ∧
      Steps p.tables e below s₀ (B.U.setTop { g with pc := g.pc + 3, stack := v.toList ++ rest }) := by
  obtain ⟨cellB, hcellT, hclsB, hstatB⟩ := hrecv
  obtain ⟨r0, r, hn, hrm, hstR, hsigR⟩ := Cond.declares_spec hdecl
  obtain ⟨cn, ck, r1, hcn, hck, hni, hf, hn1⟩ := Cond.sameMethod_found hsame
  cases hn.symm.trans hn1
  obtain ⟨mk, methM, hnamed, hmethM, -, habM⟩ := Cond.instanceMethod_spec hinst
  obtain ⟨c2, r2, m2, q1, q2, q3, q4, kP, hkP, hkPi⟩ := Cond.selects_spec hsel
  cases hcB.symm.trans q1
  cases hf.symm.trans q2
  cases hnamed.symm.trans q3
  have hselP : selectMethod e.platform s.vm cellB.cls r0 = .method mk := by rw [Launch.admits_selectMethod X.admits, hclsB]; exact q4
  obtain ⟨vm₁, X₁, hstep₁⟩ := X.invokevirtualUp hexec hown hlink hsame howner hn hrm hstR (a := b) (cell := cellB) hcellT
    (fun z h => by rw [h] at hstatB; cases hstatB) hselP hmethM habM hkP hkPi (g := g) hg (argsL := argsL) (rest := rest) (hlen _ hsigR) hstack hdg
  obtain ⟨v, B, X', hpost, hsteps⟩ := hK m meth c ⟨T.setVm vm₁, locs, cells, slots⟩ { g with stack := rest } (.invokevirtual index) mk (.ref b :: argsL).toArray X₁ hg hsize hdg hW (X₁.named hnamed) (hpre vm₁ X₁.warmed)
  exact ⟨v, vm₁, B, X₁.warmed, X', hpost, (hcome.trans (hstep₁ _ fun acts => by rw [doInvoke_state]; exact Steps.refl _)).trans hsteps⟩
/-- a class's own method is what the lookup from that class finds -/
theorem own_same {y y' : MethodName} {C : String} (wd : (Jvm.Cond.declares y).before a0 Z = true) (ws : (Jvm.Cond.selects C y' y').before a0 Z = true) (hc : y'.cls = y.cls) (hy : y.cls ≠ "java/lang/invoke/MethodHandle" ∧ y.cls ≠ "java/lang/invoke/VarHandle") : (Jvm.Cond.sameMethod y.cls y.cls y.name y.desc).before a0 Z = true := by
  obtain ⟨r0, r, hn, -⟩ := Cond.declares_spec wd
  obtain ⟨c2, r2, m2, -, -, q3, -, kP, hkP, hkPi⟩ := Cond.selects_spec ws
  have hf := State.methodFound?_of_named hn hy
  have h1 := findClass_of_methodNamed hn
  have h2 := findClass_of_methodNamed q3
  rw [hc] at h2
  have hc2 := Option.some.inj (h1.symm.trans h2)
  rw [← hc2] at hkP
  have hn' : Z.methodNamed? ⟨y.cls, y.name, y.desc⟩ = some r0 := hn
  simp [Cond.before, Cond.holds, Cond.value, h1, hf, hn', hkP, hkPi]
theorem own_nf {y y' : MethodName} {C : String} (hsel : (Jvm.Cond.selects C y' y').before args s = true) (hc : y'.cls = y.cls) : NotFace s y := fun r0 h0 => by
  obtain ⟨c2, r2, m2, -, -, q3, -, kP, hkP, hkPi⟩ := Cond.selects_spec hsel
  have h1 := findClass_of_methodNamed h0
  have h2 := findClass_of_methodNamed q3
  rw [hc] at h2
  have hc2 := Option.some.inj (h1.symm.trans h2)
  exact ⟨kP, by rw [hc2]; exact hkP, hkPi⟩
theorem own_exne {a b : Addr} {C D : String} (E : Exa Z h a C) (F : Exa Z h b D) (hn : C ≠ D) : a ≠ b := fun q => by
  subst q
  obtain ⟨c1, k1, h1, h2, -⟩ := E
  obtain ⟨c2, k2, g1, g2, -⟩ := F
  cases h1.symm.trans g1
  exact ids_ne h2 g2 hn rfl
theorem own_safeA {vm : Vm} {a : Addr} {k : ClassId} {ty : FieldType} {z : Int32} {vs : List Value} {dv : Value} (hal : Z.vm.Alike vm) (A : Arv Z h a k ty z vs dv) (ht : ty ≠ .byte) : Safe Z EL vm h a := by
  obtain ⟨cl, A1, -⟩ := A
  exact Safe.arr hal A1 ht
theorem own_orne {x v t : Addr} {k : Nat} (q : t = v ∨ k ≤ t) (hx : x < k) (hn : x ≠ v) : x ≠ t := fun r => by
  rcases q with q | q
  · exact hn (r.trans q)
  · exact absurd hx (Nat.not_lt.mpr (r ▸ q))
theorem own_orge {v t : Addr} {k n : Nat} (q : t = v ∨ k ≤ t) (hv : n ≤ v) (hk : n ≤ k) : n ≤ t := by
  rcases q with q | q
  · rw [q]; exact hv
  · exact Nat.le_trans hk q
theorem own_orSafe {vm : Vm} {v t : Addr} {ws : List Addr} (q : t = v ∨ h.size ≤ t) (K : Keep h h' ws) (hs : ∀ x ∈ ws, Safe Z EL vm h x) (H : CHv Z EL vm h) (S : Safe Z EL vm h v) : Safe Z EL vm h' t := by
  rcases q with q | q
  · rw [q]; exact Safe.keep K hs H S
  · exact Safe.keep K hs H (Safe.new q)
end Own2
abbrev Met (l : Launch) (y : MethodName) (b : ByteArray) (ml : Nat) (rt : Option FieldType) (ws : List Jvm.Cond) (r : Room) (as : Array Value) (Z : State) (h0 : Heap) (Q : Option Value → Heap → List Loc → Prop) : Prop :=
  MetFree l y (head1 (Jvm.Cond.code y b ml rt :: ws) r) (fun aa UU => aa = as ∧ Z.Warmed39 UU.vm ∧ UU.heap = h0) (fun _ _ _ _ _ => True) (fun _ UU oo UU' => ∃ vv LL, oo = .returned vv ∧ Q vv UU'.heap LL ∧ FrameEnd UU oo UU' LL r.cells r.slots)
theorem own_fr {n0 : Nat} {L locs Lc : List Loc} (l : L = locs ++ Lc) (N : Fr n0 locs) (M : Fr n0 Lc) : Fr n0 L := by rw [l]; exact Fr.app N M

def own_B (x : Int32) : Prop := 0 ≤ x.toInt ∧ x.toInt < 256
def own_C (x : Int32) : Prop := 0 ≤ x.toInt ∧ x.toInt < 65536
def own_I (n : Nat) : Int32 := Int32.ofNat n
theorem own_I_int {n : Nat} (h : n < 2147483648) : (own_I n).toInt = n := Int32.toInt_ofNat_of_lt h
theorem own_I_cl {n : Nat} (h : n < 2147483648) : (own_I n).toNatClampNeg = n := by
  show (own_I n).toInt.toNat = n
  rw [own_I_int h]; rfl
theorem own_I_nn {n : Nat} (h : n < 2147483648) : ¬ own_I n < 0 := fun q => by
  have r := Int32.lt_iff_toInt_lt.mp q
  rw [own_I_int h, show (0 : Int32).toInt = 0 from by decide] at r
  omega
theorem own_I_lt {a b : Nat} (h : a < b) (hb : b < 2147483648) : own_I a < own_I b := by
  rw [Int32.lt_iff_toInt_lt, own_I_int hb, own_I_int (Nat.lt_trans h hb)]; omega
theorem own_I_nlt {a b : Nat} (h : b ≤ a) (ha : a < 2147483648) : ¬ own_I a < own_I b := fun q => by
  rw [Int32.lt_iff_toInt_lt, own_I_int ha, own_I_int (Nat.lt_of_le_of_lt h ha)] at q; omega
theorem own_I_of_lt {a b : Nat} (q : own_I a < own_I b) (ha : a < 2147483648) (hb : b < 2147483648) : a < b := by
  rw [Int32.lt_iff_toInt_lt, own_I_int ha, own_I_int hb] at q; omega
theorem own_I_of_nlt {a b : Nat} (q : ¬ own_I a < own_I b) (ha : a < 2147483648) (hb : b < 2147483648) : b ≤ a := by
  rw [Int32.lt_iff_toInt_lt, own_I_int ha, own_I_int hb] at q; omega
theorem own_I_inj {a b : Nat} (q : own_I a = own_I b) (ha : a < 2147483648) (hb : b < 2147483648) : a = b := by
  have r := congrArg Int32.toInt q
  rw [own_I_int ha, own_I_int hb] at r; omega
theorem own_I_succ (n : Nat) : own_I n + (1 : Int32) = own_I (n + 1) := (Int32.ofNat_add n 1).symm
theorem own_I_add (n m : Nat) : own_I n + own_I m = own_I (n + m) := (Int32.ofNat_add n m).symm
theorem own_I_sub {n m : Nat} (h : m ≤ n) : own_I n - own_I m = own_I (n - m) := by
  have e : own_I n = own_I (n - m) + own_I m := by rw [own_I_add]; congr 1; omega
  rw [e, Int32.add_sub_cancel]
theorem own_shl0 (x : Int32) : x <<< ((0 : Int32) &&& 31) = x := by
  rw [show ((0 : Int32) &&& 31) = 0 from by decide, Int32.shiftLeft_zero]
theorem own_shr0 (x : Int32) : x >>> ((0 : Int32) &&& 31) = x := by
  rw [show ((0 : Int32) &&& 31) = 0 from by decide, Int32.shiftRight_zero]
theorem own_shl1_ (i : Fin 17) : own_I i.val <<< ((1 : Int32) &&& 31) = own_I (2 * i.val) := by revert i; decide +kernel
theorem own_shl1 {n : Nat} (h : n ≤ 16) : own_I n <<< ((1 : Int32) &&& 31) = own_I (2 * n) := own_shl1_ ⟨n, by omega⟩
theorem own_shr1_ (i : Fin 17) : own_I (2 * i.val) >>> ((1 : Int32) &&& 31) = own_I i.val := by revert i; decide +kernel
theorem own_shr1 {n : Nat} (h : n ≤ 16) : own_I (2 * n) >>> ((1 : Int32) &&& 31) = own_I n := own_shr1_ ⟨n, by omega⟩
theorem own_b8 (y : Int32) : (y.toInt8.toInt32).toInt8.toInt32 = y.toInt8.toInt32 := by simp
theorem own_byte_ (i : Fin 256) : ((own_I i.val).toInt8.toInt32 &&& (255 : Int32)) = own_I i.val := by revert i; decide +kernel
theorem own_nat {x : Int32} (h0 : 0 ≤ x.toInt) : x = own_I x.toInt.toNat := by
  refine Int32.toInt_inj.mp ?_
  have b := Int32.toInt_lt x
  rw [own_I_int (by omega)]; omega
theorem own_byte {x : Int32} (h : own_B x) : (x.toInt8.toInt32 &&& (255 : Int32)) = x := by
  have e := own_nat h.1
  have q := own_byte_ ⟨x.toInt.toNat, by have := h.1; have := h.2; omega⟩
  rw [← e] at q
  exact q
theorem own_C_of {x : Int32} (h : own_B x) : own_C x := ⟨h.1, by have := h.2; omega⟩
theorem own_B_of {x : Int32} (h : own_C x) (q : ¬ (255 : Int32) < x) : own_B x := ⟨h.1, by
  rw [Int32.lt_iff_toInt_lt, show (255 : Int32).toInt = 255 from by decide] at q; omega⟩
theorem own_i2c {x : Int32} (h : own_C x) : x.toUInt32.toUInt16.toUInt32.toInt32 = x := by
  rw [own_nat h.1]
  have hk : x.toInt.toNat < 65536 := by have := h.1; have := h.2; omega
  generalize x.toInt.toNat = k at hk
  refine Int32.toBitVec_inj.mp ?_
  refine BitVec.eq_of_toNat_eq ?_
  simp [own_I]
  omega
theorem own_i2cC (x : Int32) : own_C (x.toUInt32.toUInt16.toUInt32.toInt32) := by
  have e : (x.toUInt32.toUInt16.toUInt32.toInt32) = own_I x.toUInt32.toUInt16.toNat := by
    refine Int32.toBitVec_inj.mp ?_
    refine BitVec.eq_of_toNat_eq ?_
    simp [own_I]
    have r : x.toUInt32.toNat = x.toBitVec.toNat := rfl
    omega
  have b : x.toUInt32.toUInt16.toNat < 65536 := x.toUInt32.toUInt16.toNat_lt
  rw [e]
  exact ⟨by rw [own_I_int (by omega)]; omega, by rw [own_I_int (by omega)]; omega⟩
def own_b0 (x : Int32) : Int32 := (x >>> ((0 : Int32) &&& 31)).toInt8.toInt32
def own_b1 (x : Int32) : Int32 := (x >>> ((8 : Int32) &&& 31)).toInt8.toInt32
def own_dec (c0 c1 : Int32) : Int32 := (((c0 &&& (255 : Int32)) <<< ((0 : Int32) &&& 31)) ||| ((c1 &&& (255 : Int32)) <<< ((8 : Int32) &&& 31))).toUInt32.toUInt16.toUInt32.toInt32
theorem own_q8_ (i : Fin 256) : own_I i.val <<< ((8 : Int32) &&& 31) = own_I (256 * i.val) := by revert i; decide +kernel
theorem own_lo (k : Nat) : ((own_I k).toInt8.toInt32 &&& (255 : Int32)) = own_I (k % 256) := by
  have e : (own_I k).toInt8 = (own_I (k % 256)).toInt8 := by
    refine Int8.toBitVec_inj.mp ?_
    refine BitVec.eq_of_toNat_eq ?_
    simp [own_I]
  rw [e]
  exact own_byte_ ⟨k % 256, by omega⟩
theorem own_hi {k : Nat} (hk : k < 65536) : own_I k >>> ((8 : Int32) &&& 31) = own_I (k / 256) := by
  refine Int32.toInt_inj.mp ?_
  rw [own_I_int (by omega)]
  have e : (own_I k >>> ((8 : Int32) &&& 31)).toInt = (own_I k).toInt >>> 8 := by
    show (((own_I k).toBitVec.sshiftRight' (((8 : Int32) &&& 31).toBitVec.smod 32)).toInt) = _
    rw [show (((8 : Int32) &&& 31).toBitVec.smod 32) = 8#32 from by decide, BitVec.sshiftRight', BitVec.toInt_sshiftRight]
    rfl
  rw [e, own_I_int (by omega), Int.shiftRight_eq_div_pow]
  omega
theorem own_decE {x : Int32} (h : own_C x) : own_dec (own_b0 x) (own_b1 x) = x := by
  have hk : x.toInt.toNat < 65536 := by have := h.1; have := h.2; omega
  have hx := own_i2c h
  rw [own_nat h.1] at hx ⊢
  generalize x.toInt.toNat = k at hk hx
  unfold own_dec own_b0 own_b1
  rw [own_shl0, own_shr0, own_lo k, own_hi hk, own_byte_ ⟨k / 256, by omega⟩, own_q8_ ⟨k / 256, by omega⟩]
  have e : own_I (k % 256) ||| own_I (256 * (k / 256)) = own_I k := by
    refine Int32.toBitVec_inj.mp ?_
    refine BitVec.eq_of_toNat_eq ?_
    have q := Nat.two_pow_add_eq_or_of_lt (i := 8) (b := k % 256) (by omega) (k / 256)
    simp only [own_I, Int32.toBitVec_or, Int32.toBitVec_ofNat', BitVec.toNat_or, BitVec.toNat_ofNat]
    rw [Nat.mod_eq_of_lt (show k % 256 < 2 ^ 32 by omega), Nat.mod_eq_of_lt (show 256 * (k / 256) < 2 ^ 32 by omega), Nat.mod_eq_of_lt (show k < 2 ^ 32 by omega), Nat.or_comm, show (256 : Nat) * (k / 256) = 2 ^ 8 * (k / 256) from rfl, ← q]
    omega
  show (own_I (k % 256) ||| own_I (256 * (k / 256))).toUInt32.toUInt16.toUInt32.toInt32 = _
  rw [e, hx]

/-- f's first n signs lie in vs, one byte each -/
def own_E0 (f : Nat → Int32) (n : Nat) (vs : List Value) : Prop := ∀ i, i < n → own_B (f i) ∧ vs.getD i (.int (0 : Int32)) = .int ((f i).toInt8.toInt32)
/-- .. two bytes each, the low one first -/
def own_E1 (f : Nat → Int32) (n : Nat) (vs : List Value) : Prop := ∀ i, i < n → own_C (f i) ∧ vs.getD (2 * i) (.int (0 : Int32)) = .int (own_b0 (f i)) ∧ vs.getD (2 * i + 1) (.int (0 : Int32)) = .int (own_b1 (f i))
def own_cat (n : Nat) (f g : Nat → Int32) : Nat → Int32 := fun i => if i < n then f i else g (i - n)
theorem own_cat_l {n i : Nat} {f g : Nat → Int32} (h : i < n) : own_cat n f g i = f i := if_pos h
theorem own_cat_r {n i : Nat} {f g : Nat → Int32} : own_cat n f g (n + i) = g i := by
  unfold own_cat
  rw [if_neg (by omega), show n + i - n = i from by omega]
theorem own_getD_set (vs : List Value) (i j : Nat) (v d : Value) : (vs.set i v).getD j d = if i = j ∧ i < vs.length then v else vs.getD j d := by
  by_cases h : i = j
  · subst h
    by_cases q : i < vs.length
    · simp [List.getD_eq_getElem?_getD, q]
    · simp [List.getD_eq_getElem?_getD, q]
  · simp [List.getD_eq_getElem?_getD, h, List.getElem?_set_ne]
theorem own_E1_push {f : Nat → Int32} {n : Nat} {vs : List Value} {x : Int32} (E : own_E1 f n vs) (hx : f n = x) (hc : own_C x) (hl : 2 * n + 1 < vs.length) : own_E1 f (n + 1) ((vs.set (2 * n) (.int (own_b0 x))).set (2 * n + 1) (.int (own_b1 x))) := fun i hi => by
  simp only [own_getD_set, List.length_set]
  by_cases q : i = n
  · subst q hx
    rw [if_neg (by omega), if_pos ⟨rfl, by omega⟩, if_pos ⟨rfl, hl⟩]
    exact ⟨hc, rfl, rfl⟩
  · rw [if_neg (by omega), if_neg (by omega), if_neg (by omega), if_neg (by omega)]
    exact E i (by omega)
theorem own_E1_congr {f g : Nat → Int32} {n : Nat} {vs : List Value} (E : own_E1 f n vs) (h : ∀ i, i < n → g i = f i) : own_E1 g n vs := fun i hi => by rw [h i hi]; exact E i hi
theorem own_E0_congr {f g : Nat → Int32} {n : Nat} {vs : List Value} (E : own_E0 f n vs) (h : ∀ i, i < n → g i = f i) : own_E0 g n vs := fun i hi => by rw [h i hi]; exact E i hi
theorem own_copy {vd vs us : List Value} {d w : Nat} {dv : Value} (hus : us = (List.range w).map fun i => vs.getD (0 + i) dv) (hl : d + w ≤ vd.length) (j : Nat) : (vd.take d ++ us ++ vd.drop (d + w)).getD j dv = if j < d then vd.getD j dv else if j < d + w then vs.getD (j - d) dv else vd.getD j dv := by
  subst hus
  simp only [List.getD_eq_getElem?_getD]
  by_cases h1 : j < d
  · rw [if_pos h1, List.getElem?_append_left (by simp; omega), List.getElem?_append_left (by simp; omega), List.getElem?_take_of_lt h1]
  · rw [if_neg h1]
    by_cases h2 : j < d + w
    · rw [if_pos h2, List.getElem?_append_left (by simp; omega), List.getElem?_append_right (by simp; omega)]
      simp only [List.length_take, List.getElem?_map]
      rw [show j - min d vd.length = j - d from by omega, List.getElem?_range (by omega)]
      simp
    · rw [if_neg h2, List.getElem?_append_right (by simp; omega)]
      simp only [List.length_append, List.length_take, List.length_map, List.length_range, List.getElem?_drop]
      rw [show d + w + (j - (min d vd.length + w)) = j from by omega]
theorem own_copy_len {vd vs us : List Value} {d w : Nat} {dv : Value} (hus : us = (List.range w).map fun i => vs.getD (0 + i) dv) (hl : d + w ≤ vd.length) : (vd.take d ++ us ++ vd.drop (d + w)).length = vd.length := by
  subst hus; simp; omega
theorem own_app0 {f g : Nat → Int32} {n m : Nat} {vd vs us : List Value} (hus : us = (List.range m).map fun i => vs.getD (0 + i) (.int (0 : Int32))) (hl : n + m ≤ vd.length) (E : own_E0 f n vd) (G : own_E0 g m vs) : own_E0 (own_cat n f g) (n + m) (vd.take n ++ us ++ vd.drop (n + m)) := fun i hi => by
  rw [own_copy hus hl]
  by_cases q : i < n
  · rw [if_pos q, own_cat_l q]; exact E i q
  · obtain ⟨j, rfl⟩ : ∃ j, i = n + j := ⟨i - n, by omega⟩
    rw [if_neg q, if_pos hi, own_cat_r, show n + j - n = j from by omega]; exact G j (by omega)
theorem own_app1 {f g : Nat → Int32} {n m : Nat} {vd vs us : List Value} (hus : us = (List.range (2 * m)).map fun i => vs.getD (0 + i) (.int (0 : Int32))) (hl : 2 * n + 2 * m ≤ vd.length) (E : own_E1 f n vd) (G : own_E1 g m vs) : own_E1 (own_cat n f g) (n + m) (vd.take (2 * n) ++ us ++ vd.drop (2 * n + 2 * m)) := fun i hi => by
  rw [own_copy hus hl, own_copy hus hl]
  by_cases q : i < n
  · rw [if_pos (by omega), if_pos (by omega), own_cat_l q]; exact E i q
  · obtain ⟨j, rfl⟩ : ∃ j, i = n + j := ⟨i - n, by omega⟩
    rw [if_neg (by omega), if_pos (by omega), if_neg (by omega), if_pos (by omega), own_cat_r, show 2 * (n + j) - 2 * n = 2 * j from by omega, show 2 * (n + j) + 1 - 2 * n = 2 * j + 1 from by omega]; exact G j (by omega)
/-- a String: coder cd, an array of z bytes vs, n signs f -/
def own_S (cd z : Int32) (n : Nat) (f : Nat → Int32) (vs : List Value) : Prop := n ≤ 16 ∧ ((cd = 0 ∧ z = own_I n ∧ own_E0 f n vs) ∨ (cd = 1 ∧ z = own_I (2 * n) ∧ own_E1 f n vs))
/-- a builder's buffer -/
def own_W (cd z : Int32) (n : Nat) (f : Nat → Int32) (vs : List Value) : Prop := n ≤ 16 ∧ ((cd = 0 ∧ z = (16 : Int32) ∧ vs.length = 16 ∧ own_E0 f n vs) ∨ (cd = 1 ∧ z = (32 : Int32) ∧ vs.length = 32 ∧ own_E1 f n vs))

def own_isL (co : Int32) : Int32 := if co = 0 then 1 else 0
def own_min (x y : Int32) : Int32 := if y < x then y else x
theorem own_narcd {co : Int32} (h : co = 0 ∨ co = 1) : nar .byte co = co := by rcases h with rfl | rfl <;> decide
theorem own_narC {x : Int32} (h : own_C x) : nar .char x = x := own_i2c h
theorem own_nardec {x : Int32} (h : own_C x) : nar .char (own_dec (own_b0 x) (own_b1 x)) = x := by rw [own_decE h]; exact own_i2c h
theorem own_narb2 {x : Int32} (h : own_B x) : nar .char ((x.toInt8.toInt32 &&& (255 : Int32)).toUInt32.toUInt16.toUInt32.toInt32) = x := by
  rw [own_byte h, own_i2c (own_C_of h)]; exact own_i2c (own_C_of h)
theorem own_cl0 : (0 : Int32).toNatClampNeg = 0 := by decide
theorem own_cl16 : (16 : Int32).toNatClampNeg = 16 := by decide
theorem own_cl32 : (32 : Int32).toNatClampNeg = 32 := by decide
theorem own_chk_ : ∀ d m : Fin 17, d.val + m.val ≤ 16 → ¬ ((((32 : Int32) >>> ((1 : Int32) &&& 31)) ||| own_I d.val) ||| own_I m.val) < 0 ∧ ¬ (((32 : Int32) >>> ((1 : Int32) &&& 31)) - own_I d.val) < own_I m.val := by decide +kernel
theorem own_chk1 {d m : Nat} (h : d + m ≤ 16) : ¬ ((((32 : Int32) >>> ((1 : Int32) &&& 31)) ||| own_I d) ||| own_I m) < 0 := (own_chk_ ⟨d, by omega⟩ ⟨m, by omega⟩ h).1
theorem own_chk2 {d m : Nat} (h : d + m ≤ 16) : ¬ (((32 : Int32) >>> ((1 : Int32) &&& 31)) - own_I d) < own_I m := (own_chk_ ⟨d, by omega⟩ ⟨m, by omega⟩ h).2
theorem own_cap_ : ∀ w : Fin 17, ¬ (0 : Int32) < (own_I w.val - ((16 : Int32) >>> ((0 : Int32) &&& 31))) ∧ ¬ (0 : Int32) < (own_I w.val - ((32 : Int32) >>> ((1 : Int32) &&& 31))) := by decide +kernel
theorem own_cap0 {w : Nat} (h : w ≤ 16) : ¬ (0 : Int32) < (own_I w - ((16 : Int32) >>> ((0 : Int32) &&& 31))) := (own_cap_ ⟨w, by omega⟩).1
theorem own_cap1 {w : Nat} (h : w ≤ 16) : ¬ (0 : Int32) < (own_I w - ((32 : Int32) >>> ((1 : Int32) &&& 31))) := (own_cap_ ⟨w, by omega⟩).2
def own_f (x0 x1 x2 : Int32) (i : Nat) : Int32 := if i = 0 then x0 else if i = 1 then x1 else x2
theorem own_S0_0 (f : Nat → Int32) : own_S (0 : Int32) (0 : Int32) 0 f [] := ⟨by decide, Or.inl ⟨rfl, rfl, fun i hi => absurd hi (Nat.not_lt_zero i)⟩⟩
theorem own_S0_1 {x0 : Int32} (x1 : Int32) (x2 : Int32) (h0 : own_B x0) : own_S (0 : Int32) (1 : Int32) 1 (own_f x0 x1 x2) [(.int (x0.toInt8.toInt32))] := ⟨by decide, Or.inl ⟨rfl, rfl, fun i hi => by
  match i, hi with
  | 0, _ => exact ⟨h0, rfl⟩⟩⟩
theorem own_S1_1 {x0 : Int32} (x1 : Int32) (x2 : Int32) (h0 : own_C x0) : own_S (1 : Int32) (2 : Int32) 1 (own_f x0 x1 x2) [(.int (own_b0 x0)), (.int (own_b1 x0))] := ⟨by decide, Or.inr ⟨rfl, rfl, fun i hi => by
  match i, hi with
  | 0, _ => exact ⟨h0, rfl, rfl⟩⟩⟩
theorem own_S0_2 {x0 x1 : Int32} (x2 : Int32) (h0 : own_B x0) (h1 : own_B x1) : own_S (0 : Int32) (2 : Int32) 2 (own_f x0 x1 x2) [(.int (x0.toInt8.toInt32)), (.int (x1.toInt8.toInt32))] := ⟨by decide, Or.inl ⟨rfl, rfl, fun i hi => by
  match i, hi with
  | 0, _ => exact ⟨h0, rfl⟩
  | 1, _ => exact ⟨h1, rfl⟩⟩⟩
theorem own_S1_2 {x0 x1 : Int32} (x2 : Int32) (h0 : own_C x0) (h1 : own_C x1) : own_S (1 : Int32) (4 : Int32) 2 (own_f x0 x1 x2) [(.int (own_b0 x0)), (.int (own_b1 x0)), (.int (own_b0 x1)), (.int (own_b1 x1))] := ⟨by decide, Or.inr ⟨rfl, rfl, fun i hi => by
  match i, hi with
  | 0, _ => exact ⟨h0, rfl, rfl⟩
  | 1, _ => exact ⟨h1, rfl, rfl⟩⟩⟩
theorem own_S0_3 {x0 x1 x2 : Int32} (h0 : own_B x0) (h1 : own_B x1) (h2 : own_B x2) : own_S (0 : Int32) (3 : Int32) 3 (own_f x0 x1 x2) [(.int (x0.toInt8.toInt32)), (.int (x1.toInt8.toInt32)), (.int (x2.toInt8.toInt32))] := ⟨by decide, Or.inl ⟨rfl, rfl, fun i hi => by
  match i, hi with
  | 0, _ => exact ⟨h0, rfl⟩
  | 1, _ => exact ⟨h1, rfl⟩
  | 2, _ => exact ⟨h2, rfl⟩⟩⟩
theorem own_S1_3 {x0 x1 x2 : Int32} (h0 : own_C x0) (h1 : own_C x1) (h2 : own_C x2) : own_S (1 : Int32) (6 : Int32) 3 (own_f x0 x1 x2) [(.int (own_b0 x0)), (.int (own_b1 x0)), (.int (own_b0 x1)), (.int (own_b1 x1)), (.int (own_b0 x2)), (.int (own_b1 x2))] := ⟨by decide, Or.inr ⟨rfl, rfl, fun i hi => by
  match i, hi with
  | 0, _ => exact ⟨h0, rfl, rfl⟩
  | 1, _ => exact ⟨h1, rfl, rfl⟩
  | 2, _ => exact ⟨h2, rfl, rfl⟩⟩⟩
theorem own_W00 (f : Nat → Int32) : own_W (0 : Int32) (16 : Int32) 0 f [(.int (0 : Int32)), (.int (0 : Int32)), (.int (0 : Int32)), (.int (0 : Int32)), (.int (0 : Int32)), (.int (0 : Int32)), (.int (0 : Int32)), (.int (0 : Int32)), (.int (0 : Int32)), (.int (0 : Int32)), (.int (0 : Int32)), (.int (0 : Int32)), (.int (0 : Int32)), (.int (0 : Int32)), (.int (0 : Int32)), (.int (0 : Int32))] := ⟨by decide, Or.inl ⟨rfl, rfl, rfl, fun i hi => absurd hi (Nat.not_lt_zero i)⟩⟩
theorem own_W_cd {co z : Int32} {n : Nat} {f : Nat → Int32} {vs : List Value} (h : own_W co z n f vs) : (co = 0 ∧ z = 16) ∨ (co = 1 ∧ z = 32) := by
  rcases h with ⟨-, ⟨h1, h2, -⟩ | ⟨h1, h2, -⟩⟩
  · exact Or.inl ⟨h1, h2⟩
  · exact Or.inr ⟨h1, h2⟩
theorem own_E0_eq {f : Nat → Int32} {n : Nat} {vs vs' : List Value} (E : own_E0 f n vs) (h : ∀ i, i < n → vs'.getD i (.int (0 : Int32)) = vs.getD i (.int (0 : Int32))) : own_E0 f n vs' := fun i hi => by rw [h i hi]; exact E i hi
theorem own_E1_eq {f : Nat → Int32} {n : Nat} {vs vs' : List Value} (E : own_E1 f n vs) (h : ∀ i, i < 2 * n → vs'.getD i (.int (0 : Int32)) = vs.getD i (.int (0 : Int32))) : own_E1 f n vs' := fun i hi => by rw [h _ (by omega), h _ (by omega)]; exact E i hi
def own_lu (i : Nat) : Int32 := [(32 : Int32), (40 : Int32), (117 : Int32), (115 : Int32), (97 : Int32), (103 : Int32), (101 : Int32), (58 : Int32), (32 : Int32)].getD i 0
def own_lp (i : Nat) : Int32 := 41
theorem own_S_lu : own_S (0 : Int32) (9 : Int32) 9 own_lu [(.int (32 : Int32)), (.int (40 : Int32)), (.int (117 : Int32)), (.int (115 : Int32)), (.int (97 : Int32)), (.int (103 : Int32)), (.int (101 : Int32)), (.int (58 : Int32)), (.int (32 : Int32))] := ⟨by decide, Or.inl ⟨rfl, rfl, fun i hi => by
  match i, hi with
  | 0, _ => exact ⟨⟨by decide, by decide⟩, rfl⟩
  | 1, _ => exact ⟨⟨by decide, by decide⟩, rfl⟩
  | 2, _ => exact ⟨⟨by decide, by decide⟩, rfl⟩
  | 3, _ => exact ⟨⟨by decide, by decide⟩, rfl⟩
  | 4, _ => exact ⟨⟨by decide, by decide⟩, rfl⟩
  | 5, _ => exact ⟨⟨by decide, by decide⟩, rfl⟩
  | 6, _ => exact ⟨⟨by decide, by decide⟩, rfl⟩
  | 7, _ => exact ⟨⟨by decide, by decide⟩, rfl⟩
  | 8, _ => exact ⟨⟨by decide, by decide⟩, rfl⟩⟩⟩
theorem own_S_lp : own_S (0 : Int32) (1 : Int32) 1 own_lp [(.int (41 : Int32))] := ⟨by decide, Or.inl ⟨rfl, rfl, fun i hi => by
  match i, hi with
  | 0, _ => exact ⟨⟨by decide, by decide⟩, rfl⟩⟩⟩
/-- the message's signs: the problem's, " (usage: ", the usage's, ")" -/
def own_M (n1 : Nat) (f1 : Nat → Int32) (n2 : Nat) (f2 : Nat → Int32) (F : Nat → Int32) : Prop := (∀ i, i < n1 → F i = f1 i) ∧ (∀ i, i < 9 → F (n1 + i) = own_lu i) ∧ (∀ i, i < n2 → F (n1 + 9 + i) = f2 i) ∧ F (n1 + 9 + n2) = 41
theorem own_M_of (n1 n2 : Nat) (f0 f1 f2 : Nat → Int32) : own_M n1 f1 n2 f2 (own_cat (0 + n1 + 9 + n2) (own_cat (0 + n1 + 9) (own_cat (0 + n1) (own_cat 0 f0 f1) own_lu) f2) own_lp) := by
  rw [Nat.zero_add]
  refine ⟨fun i hi => ?_, fun i hi => ?_, fun i hi => ?_, ?_⟩
  · rw [own_cat_l (by omega), own_cat_l (by omega), own_cat_l hi]; exact (show own_cat 0 f0 f1 (0 + i) = f1 i from own_cat_r) ▸ (by rw [Nat.zero_add])
  · rw [own_cat_l (by omega), own_cat_l (by omega), own_cat_r]
  · rw [own_cat_l (by omega), own_cat_r]
  · exact own_cat_r (i := 0)
/-- the JDK's statics that the walk reads -/
def own_St (Z : State) : Prop := ∃ (cs : Int32) (u : Value), Sta Z Z.heap "java/lang/String" "COMPACT_STRINGS" "Z" (.int cs) ∧ ¬ cs = (0 : Int32) ∧ Sta Z Z.heap "jdk/internal/util/Preconditions" "SIOOBE_FORMATTER" "Ljava/util/function/BiFunction;" u ∧ u.isRef = true ∧ Sta Z Z.heap "java/lang/StringUTF16" "$assertionsDisabled" "Z" (.int (1 : Int32)) ∧ Sta Z Z.heap "java/lang/StringUTF16" "HI_BYTE_SHIFT" "I" (.int (0 : Int32)) ∧ Sta Z Z.heap "java/lang/StringUTF16" "LO_BYTE_SHIFT" "I" (.int (8 : Int32))
/-- the String constants that the walk reads -/
def own_EL : List (String × Nat) := [("com/example/kwerx/kwerx/cli/CommandLine", 163), ("com/example/kwerx/kwerx/cli/CommandLine", 165), ("com/example/kwerx/kwerx/cli/CommandLineUsageErrorPinLaw", 20), ("java/lang/String", 7)]
theorem own_sub0 (x : Int32) : x - (0 : Int32) = x := Int32.sub_zero x
theorem own_minI {w z : Nat} (h : w ≤ z) (hz : z < 2147483648) : own_min (own_I z) (own_I w) = own_I w := by
  unfold own_min
  by_cases q : w = z
  · rw [q]; split <;> rfl
  · rw [if_pos (own_I_lt (by omega) hz)]
theorem own_copy0 {vd vs : List Value} {w : Nat} {dv : Value} (hl : 0 + w ≤ vd.length) : ∀ i, i < w → (vd.take 0 ++ ((List.range w).map fun i => vs.getD (0 + i) dv) ++ vd.drop (0 + w)).getD i dv = vs.getD i dv := fun i hi => by
  rw [own_copy rfl hl, if_neg (Nat.not_lt_zero i), if_pos (by omega), Nat.sub_zero]
theorem own_I_add9 (n : Nat) : own_I n + (9 : Int32) = own_I (n + 9) := own_I_add n 9
theorem own_I_add10 (n : Nat) : own_I n + (10 : Int32) = own_I (n + 10) := own_I_add n 10
theorem own_I_sub9 {n : Nat} (h : 9 ≤ n) : own_I n - (9 : Int32) = own_I (n - 9) := own_I_sub h
theorem own_M1 {n1 n2 : Nat} {f1 f2 F : Nat → Int32} (M : own_M n1 f1 n2 f2 F) {j : Nat} (h : n1 ≤ j) (k : j < n1 + 9) : F j = own_lu (j - n1) := by
  have q := M.2.1 (j - n1) (by omega)
  rw [show n1 + (j - n1) = j from by omega] at q; exact q
theorem own_M2 {n1 n2 : Nat} {f1 f2 F : Nat → Int32} (M : own_M n1 f1 n2 f2 F) {j : Nat} (h : n1 + 9 ≤ j) (k : j < n1 + 9 + n2) : F j = f2 (j - n1 - 9) := by
  have q := M.2.2.1 (j - n1 - 9) (by omega)
  rw [show n1 + 9 + (j - n1 - 9) = j from by omega] at q; exact q
theorem own_M3 {n1 n2 : Nat} {f1 f2 F : Nat → Int32} (M : own_M n1 f1 n2 f2 F) {j : Nat} (h : n1 + 9 + n2 ≤ j) (k : j < n1 + 10 + n2) : F j = (41 : Int32) := by
  have q := M.2.2.2
  rw [show n1 + 9 + n2 = j from by omega] at q; exact q

theorem own_four (x : Int32) : (x &&& (3 : Int32)) = 0 ∨ (x &&& (3 : Int32)) = 1 ∨ (x &&& (3 : Int32)) = 2 ∨ (x &&& (3 : Int32)) = 3 := by
  have q := c_mask x 3 2 (by decide) (by decide)
  have r : (x &&& 3).toInt = 0 ∨ (x &&& 3).toInt = 1 ∨ (x &&& 3).toInt = 2 ∨ (x &&& 3).toInt = 3 := by rw [q]; omega
  rcases r with r | r | r | r
  · exact Or.inl (Int32.toInt_inj.mp (r.trans (by decide)))
  · exact Or.inr (Or.inl (Int32.toInt_inj.mp (r.trans (by decide))))
  · exact Or.inr (Or.inr (Or.inl (Int32.toInt_inj.mp (r.trans (by decide)))))
  · exact Or.inr (Or.inr (Or.inr (Int32.toInt_inj.mp (r.trans (by decide)))))
abbrev k0 : ByteArray := jdk_42_method_152_code
theorem d0_0 : decode k0 0 = .ok (.getstatic 38, 3) := by decide +kernel
theorem d0_3 : decode k0 3 = .ok (.ifCond .eq 10, 3) := by decide +kernel
theorem d0_6 : decode k0 6 = .ok (.aload_n 0, 1) := by decide +kernel
theorem d0_7 : decode k0 7 = .ok (.getfield 15, 3) := by decide +kernel
theorem d0_10 : decode k0 10 = .ok (.goto 4, 3) := by decide +kernel
theorem d0_14 : decode k0 14 = .ok (.ireturn, 1) := by decide +kernel
abbrev y_0 : MethodName := ⟨"java/lang/String", "coder", "()B"⟩
abbrev r_coder : Room := { frames := 0, cells := 0, slots := 0, locals := 0 }
theorem pn_0 : plainName "java/lang/String" = true := by first | (simp [plainName, overriddenIn]; done) | decide +kernel
theorem ef_coder (mt : MethodId) (a : Addr) : entryFrame mt #[(.ref a)] 1 = mkF mt 0 #[.val (.ref a)] [] := by first | (simp [entryFrame, mkF, argsToLocals, Value.category]; done) | rfl
def Q_coder (Z : State) (a : Addr) (co : Int32) (h0 : Heap) (n0 : Nat) (v : Option Value) (h : Heap) (L : List Loc) : Prop := v = some (.int co) ∧ Fr n0 L ∧ h = h0
theorem rm_coder (l : Launch) (Z : State) (a0 : Array Value) (hw : ∀ d ∈ tables_1, d.before a0 Z = true) (ws : List Jvm.Cond) (a : Addr) (co : Int32) (h0 : Heap) (n0 : Nat) (Z0 : n0 ≤ h0.size) (Fc : Fld Z h0 a "java/lang/String" "coder" "B" (.int co)) (hcd : co = 0 ∨ co = 1) (ST : own_St Z) (O : Old Z n0 h0) :
    Met l y_0 k0 1 (some .byte) ws r_coder #[(.ref a)] Z h0 (Q_coder Z a co h0 n0) := by
  refine MetFree.of_bodySF (plainFor_of_name pn_0) hisR ?_
  intro p e s mt args below meth cd s₁ Bd hml0 hP hK
  obtain ⟨hA, hZ, hh⟩ := hP
  have hx := Bd.exec
  have hby := Bd.bytes
  have hml : cd.maxLocals = 1 := hml0
  have hown : s.vm.findClass "java/lang/String" = some mt.cls := findClass_of_methodNamed Bd.named
  have hlk : meth.locks = false := BodyLoose.notSynchronized Bd
  have hrt := Bd.returns
  have X0 : Stand p l e r_coder s mt args below meth cd s₁ [] 0 0 := Stand.of_body Bd
  have e0 : s₁.heap = h0 := by rw [← hh, Bd.state]; rfl
  have N0 := Fr.nil n0
  show Win p e below (Ends s (Q_coder Z a co h0 n0) r_coder.cells r_coder.slots) s₁ (entryFrame mt args 1)
  rw [hA, ef_coder]
  obtain ⟨cs, u, S0, hcs, S1, hu, S2, S3, S4⟩ := id ST
  obtain ⟨T11, X11, e11, st11⟩ := getS2 X0 hx hZ hown (host := "") (Or.inl (ow hw 71 rfl)) Via.refl e0 (S0.ext O.2) (g := (mkF mt 0 #[.val (.ref a)] [])) rfl (hb hby d0_0)
  refine Win.st ?_ st11
  show Win _ _ _ _ T11 (mkF mt 3 #[.val (.ref a)] [(.int cs)])
  refine Win.st ?_ (fun tq kq => XS.ifNo X11.here hx rfl (hb hby d0_3) rfl ((if0 _ _).trans (feq hcs).1) kq)
  refine w_aloadN X11 hx hby d0_6 rfl rfl ?_
  obtain ⟨T12, X12, e12, st12⟩ := getF X11 hx hZ hown (host := "") (Or.inl (ow hw 25 rfl)) Via.refl e11 Fc (g := (mkF mt 7 #[.val (.ref a)] [(.ref a)])) rfl rfl (hb hby d0_7)
  refine Win.st ?_ st12
  show Win _ _ _ _ T12 (mkF mt 10 #[.val (.ref a)] [(.int co)])
  refine Win.st ?_ (fun tq kq => XS.goto X12.here hx rfl (pc0 := 10) (pc' := 14) rfl (hb hby d0_10) (by decide) (by decide) kq)
  show Win _ _ _ _ T12 (mkF mt 14 #[.val (.ref a)] [(.int co)])
  exact Win.retN X12 hx hlk e12 (t := .byte) (z' := co) hrt (by simp) (hb hby d0_14) (by decide) (by decide) (own_narcd hcd) ⟨rfl, N0, rfl⟩
abbrev k1 : ByteArray := jdk_42_method_154_code
theorem d1_0 : decode k1 0 = .ok (.getstatic 38, 3) := by decide +kernel
theorem d1_3 : decode k1 3 = .ok (.ifCond .eq 14, 3) := by decide +kernel
theorem d1_6 : decode k1 6 = .ok (.aload_n 0, 1) := by decide +kernel
theorem d1_7 : decode k1 7 = .ok (.getfield 15, 3) := by decide +kernel
theorem d1_10 : decode k1 10 = .ok (.ifCond .ne 7, 3) := by decide +kernel
theorem d1_13 : decode k1 13 = .ok (.iconst 1, 1) := by decide +kernel
theorem d1_14 : decode k1 14 = .ok (.goto 4, 3) := by decide +kernel
theorem d1_18 : decode k1 18 = .ok (.ireturn, 1) := by decide +kernel
theorem d1_17 : decode k1 17 = .ok (.iconst 0, 1) := by decide +kernel
abbrev y_1 : MethodName := ⟨"java/lang/String", "isLatin1", "()Z"⟩
abbrev r_isl : Room := { frames := 0, cells := 0, slots := 0, locals := 0 }
theorem ef_isl (mt : MethodId) (a : Addr) : entryFrame mt #[(.ref a)] 1 = mkF mt 0 #[.val (.ref a)] [] := by first | (simp [entryFrame, mkF, argsToLocals, Value.category]; done) | rfl
def Q_isl (Z : State) (a : Addr) (co : Int32) (h0 : Heap) (n0 : Nat) (v : Option Value) (h : Heap) (L : List Loc) : Prop := v = some (.int (own_isL co)) ∧ Fr n0 L ∧ h = h0
theorem rm_isl (l : Launch) (Z : State) (a0 : Array Value) (hw : ∀ d ∈ tables_1, d.before a0 Z = true) (ws : List Jvm.Cond) (a : Addr) (co : Int32) (h0 : Heap) (n0 : Nat) (Z0 : n0 ≤ h0.size) (Fc : Fld Z h0 a "java/lang/String" "coder" "B" (.int co)) (ST : own_St Z) (O : Old Z n0 h0) :
    Met l y_1 k1 1 (some .boolean) ws r_isl #[(.ref a)] Z h0 (Q_isl Z a co h0 n0) := by
  refine MetFree.of_bodySF (plainFor_of_name pn_0) hisR ?_
  intro p e s mt args below meth cd s₁ Bd hml0 hP hK
  obtain ⟨hA, hZ, hh⟩ := hP
  have hx := Bd.exec
  have hby := Bd.bytes
  have hml : cd.maxLocals = 1 := hml0
  have hown : s.vm.findClass "java/lang/String" = some mt.cls := findClass_of_methodNamed Bd.named
  have hlk : meth.locks = false := BodyLoose.notSynchronized Bd
  have hrt := Bd.returns
  have X0 : Stand p l e r_isl s mt args below meth cd s₁ [] 0 0 := Stand.of_body Bd
  have e0 : s₁.heap = h0 := by rw [← hh, Bd.state]; rfl
  have N0 := Fr.nil n0
  show Win p e below (Ends s (Q_isl Z a co h0 n0) r_isl.cells r_isl.slots) s₁ (entryFrame mt args 1)
  rw [hA, ef_isl]
  obtain ⟨cs, u, S0, hcs, S1, hu, S2, S3, S4⟩ := id ST
  obtain ⟨T13, X13, e13, st13⟩ := getS2 X0 hx hZ hown (host := "") (Or.inl (ow hw 71 rfl)) Via.refl e0 (S0.ext O.2) (g := (mkF mt 0 #[.val (.ref a)] [])) rfl (hb hby d1_0)
  refine Win.st ?_ st13
  show Win _ _ _ _ T13 (mkF mt 3 #[.val (.ref a)] [(.int cs)])
  refine Win.st ?_ (fun tq kq => XS.ifNo X13.here hx rfl (hb hby d1_3) rfl ((if0 _ _).trans (feq hcs).1) kq)
  refine w_aloadN X13 hx hby d1_6 rfl rfl ?_
  obtain ⟨T14, X14, e14, st14⟩ := getF X13 hx hZ hown (host := "") (Or.inl (ow hw 25 rfl)) Via.refl e13 Fc (g := (mkF mt 7 #[.val (.ref a)] [(.ref a)])) rfl rfl (hb hby d1_7)
  refine Win.st ?_ st14
  show Win _ _ _ _ T14 (mkF mt 10 #[.val (.ref a)] [(.int co)])
  by_cases hc10 : co = (0 : Int32)
  · refine Win.st ?_ (fun tq kq => XS.ifNo X14.here hx rfl (hb hby d1_10) rfl ((if0 _ _).trans (teq hc10).2) kq)
    refine w_iconst X14 hx hby d1_13 ?_
    show Win _ _ _ _ T14 (mkF mt 14 #[.val (.ref a)] [(.int (1 : Int32))])
    refine Win.st ?_ (fun tq kq => XS.goto X14.here hx rfl (pc0 := 14) (pc' := 18) rfl (hb hby d1_14) (by decide) (by decide) kq)
    show Win _ _ _ _ T14 (mkF mt 18 #[.val (.ref a)] [(.int (1 : Int32))])
    exact Win.retN X14 hx hlk e14 (t := .boolean) (z' := (1 : Int32)) hrt (by simp) (hb hby d1_18) (by decide) (by decide) rfl ⟨by rw [own_isL, if_pos hc10], N0, rfl⟩
  · refine Win.st ?_ (fun tq kq => XS.ifYes X14.here hx rfl (pc0 := 10) (pc' := 17) rfl (hb hby d1_10) rfl ((if0 _ _).trans (feq hc10).2) (by decide) (by decide) kq)
    refine w_iconst X14 hx hby d1_17 ?_
    show Win _ _ _ _ T14 (mkF mt 18 #[.val (.ref a)] [(.int (0 : Int32))])
    exact Win.retN X14 hx hlk e14 (t := .boolean) (z' := (0 : Int32)) hrt (by simp) (hb hby d1_18) (by decide) (by decide) rfl ⟨by rw [own_isL, if_neg hc10], N0, rfl⟩
abbrev k2 : ByteArray := jdk_68_method_68_code
theorem d2_0 : decode k2 0 = .ok (.getstatic 18, 3) := by decide +kernel
theorem d2_3 : decode k2 3 = .ok (.ifCond .eq 14, 3) := by decide +kernel
theorem d2_6 : decode k2 6 = .ok (.aload_n 0, 1) := by decide +kernel
theorem d2_7 : decode k2 7 = .ok (.getfield 22, 3) := by decide +kernel
theorem d2_10 : decode k2 10 = .ok (.ifCond .ne 7, 3) := by decide +kernel
theorem d2_13 : decode k2 13 = .ok (.iconst 1, 1) := by decide +kernel
theorem d2_14 : decode k2 14 = .ok (.goto 4, 3) := by decide +kernel
theorem d2_18 : decode k2 18 = .ok (.ireturn, 1) := by decide +kernel
theorem d2_17 : decode k2 17 = .ok (.iconst 0, 1) := by decide +kernel
abbrev y_2 : MethodName := ⟨"java/lang/AbstractStringBuilder", "isLatin1", "()Z"⟩
abbrev r_bisl : Room := { frames := 0, cells := 0, slots := 0, locals := 0 }
theorem pn_1 : plainName "java/lang/AbstractStringBuilder" = true := by first | (simp [plainName, overriddenIn]; done) | decide +kernel
theorem ef_bisl (mt : MethodId) (a : Addr) : entryFrame mt #[(.ref a)] 1 = mkF mt 0 #[.val (.ref a)] [] := by first | (simp [entryFrame, mkF, argsToLocals, Value.category]; done) | rfl
def Q_bisl (Z : State) (a : Addr) (co : Int32) (h0 : Heap) (n0 : Nat) (v : Option Value) (h : Heap) (L : List Loc) : Prop := v = some (.int (own_isL co)) ∧ Fr n0 L ∧ h = h0
theorem rm_bisl (l : Launch) (Z : State) (a0 : Array Value) (hw : ∀ d ∈ tables_1, d.before a0 Z = true) (ws : List Jvm.Cond) (a : Addr) (co : Int32) (h0 : Heap) (n0 : Nat) (Z0 : n0 ≤ h0.size) (Fc : Fld Z h0 a "java/lang/AbstractStringBuilder" "coder" "B" (.int co)) (ST : own_St Z) (O : Old Z n0 h0) :
    Met l y_2 k2 1 (some .boolean) ws r_bisl #[(.ref a)] Z h0 (Q_bisl Z a co h0 n0) := by
  refine MetFree.of_bodySF (plainFor_of_name pn_1) hisR ?_
  intro p e s mt args below meth cd s₁ Bd hml0 hP hK
  obtain ⟨hA, hZ, hh⟩ := hP
  have hx := Bd.exec
  have hby := Bd.bytes
  have hml : cd.maxLocals = 1 := hml0
  have hown : s.vm.findClass "java/lang/AbstractStringBuilder" = some mt.cls := findClass_of_methodNamed Bd.named
  have hlk : meth.locks = false := BodyLoose.notSynchronized Bd
  have hrt := Bd.returns
  have X0 : Stand p l e r_bisl s mt args below meth cd s₁ [] 0 0 := Stand.of_body Bd
  have e0 : s₁.heap = h0 := by rw [← hh, Bd.state]; rfl
  have N0 := Fr.nil n0
  show Win p e below (Ends s (Q_bisl Z a co h0 n0) r_bisl.cells r_bisl.slots) s₁ (entryFrame mt args 1)
  rw [hA, ef_bisl]
  obtain ⟨cs, u, S0, hcs, S1, hu, S2, S3, S4⟩ := id ST
  obtain ⟨T15, X15, e15, st15⟩ := getS2 X0 hx hZ hown (host := "") (Or.inl (ow hw 46 rfl)) Via.refl e0 (S0.ext O.2) (g := (mkF mt 0 #[.val (.ref a)] [])) rfl (hb hby d2_0)
  refine Win.st ?_ st15
  show Win _ _ _ _ T15 (mkF mt 3 #[.val (.ref a)] [(.int cs)])
  refine Win.st ?_ (fun tq kq => XS.ifNo X15.here hx rfl (hb hby d2_3) rfl ((if0 _ _).trans (feq hcs).1) kq)
  refine w_aloadN X15 hx hby d2_6 rfl rfl ?_
  obtain ⟨T16, X16, e16, st16⟩ := getF X15 hx hZ hown (host := "") (Or.inl (ow hw 49 rfl)) Via.refl e15 Fc (g := (mkF mt 7 #[.val (.ref a)] [(.ref a)])) rfl rfl (hb hby d2_7)
  refine Win.st ?_ st16
  show Win _ _ _ _ T16 (mkF mt 10 #[.val (.ref a)] [(.int co)])
  by_cases hc10 : co = (0 : Int32)
  · refine Win.st ?_ (fun tq kq => XS.ifNo X16.here hx rfl (hb hby d2_10) rfl ((if0 _ _).trans (teq hc10).2) kq)
    refine w_iconst X16 hx hby d2_13 ?_
    show Win _ _ _ _ T16 (mkF mt 14 #[.val (.ref a)] [(.int (1 : Int32))])
    refine Win.st ?_ (fun tq kq => XS.goto X16.here hx rfl (pc0 := 14) (pc' := 18) rfl (hb hby d2_14) (by decide) (by decide) kq)
    show Win _ _ _ _ T16 (mkF mt 18 #[.val (.ref a)] [(.int (1 : Int32))])
    exact Win.retN X16 hx hlk e16 (t := .boolean) (z' := (1 : Int32)) hrt (by simp) (hb hby d2_18) (by decide) (by decide) rfl ⟨by rw [own_isL, if_pos hc10], N0, rfl⟩
  · refine Win.st ?_ (fun tq kq => XS.ifYes X16.here hx rfl (pc0 := 10) (pc' := 17) rfl (hb hby d2_10) rfl ((if0 _ _).trans (feq hc10).2) (by decide) (by decide) kq)
    refine w_iconst X16 hx hby d2_17 ?_
    show Win _ _ _ _ T16 (mkF mt 18 #[.val (.ref a)] [(.int (0 : Int32))])
    exact Win.retN X16 hx hlk e16 (t := .boolean) (z' := (0 : Int32)) hrt (by simp) (hb hby d2_18) (by decide) (by decide) rfl ⟨by rw [own_isL, if_neg hc10], N0, rfl⟩
abbrev k3 : ByteArray := jdk_42_method_54_code
theorem d3_0 : decode k3 0 = .ok (.aload_n 0, 1) := by decide +kernel
theorem d3_1 : decode k3 1 = .ok (.getfield 9, 3) := by decide +kernel
theorem d3_4 : decode k3 4 = .ok (.arraylength, 1) := by decide +kernel
theorem d3_5 : decode k3 5 = .ok (.aload_n 0, 1) := by decide +kernel
theorem d3_6 : decode k3 6 = .ok (.invokevirtual 335, 3) := by decide +kernel
theorem pd_0 : parseMethodDescriptor "()B" = some ⟨[], some .byte⟩ := by decide +kernel
theorem d3_9 : decode k3 9 = .ok (.ishr, 1) := by decide +kernel
theorem d3_10 : decode k3 10 = .ok (.ireturn, 1) := by decide +kernel
abbrev y_3 : MethodName := ⟨"java/lang/String", "length", "()I"⟩
abbrev r_slen : Room := { frames := 1, cells := 0, slots := 0, locals := 13 }
theorem ef_slen (mt : MethodId) (a : Addr) : entryFrame mt #[(.ref a)] 1 = mkF mt 0 #[.val (.ref a)] [] := by first | (simp [entryFrame, mkF, argsToLocals, Value.category]; done) | rfl
def Q_slen (Z : State) (a : Addr) (bs : Addr) (ks : ClassId) (zs : Int32) (vs : List Value) (co : Int32) (n : Nat) (f : Nat → Int32) (h0 : Heap) (n0 : Nat) (v : Option Value) (h : Heap) (L : List Loc) : Prop := v = some (.int (own_I n)) ∧ Fr n0 L ∧ h = h0
theorem rm_slen (l : Launch) (Z : State) (a0 : Array Value) (hw : ∀ d ∈ tables_1, d.before a0 Z = true) (ws : List Jvm.Cond) (a : Addr) (bs : Addr) (ks : ClassId) (zs : Int32) (vs : List Value) (co : Int32) (n : Nat) (f : Nat → Int32) (h0 : Heap) (n0 : Nat) (Z0 : n0 ≤ h0.size) (E : Exa Z h0 a "java/lang/String") (Fv : Fld Z h0 a "java/lang/String" "value" "[B" (.ref bs)) (Fc : Fld Z h0 a "java/lang/String" "coder" "B" (.int co)) (V : Arv Z h0 bs ks .byte zs vs (.int (0 : Int32))) (H : own_S co zs n f vs) (ST : own_St Z) (O : Old Z n0 h0) :
    Met l y_3 k3 1 (some .int) ws r_slen #[(.ref a)] Z h0 (Q_slen Z a bs ks zs vs co n f h0 n0) := by
  refine MetFree.of_bodySF (plainFor_of_name pn_0) hisR ?_
  intro p e s mt args below meth cd s₁ Bd hml0 hP hK
  obtain ⟨hA, hZ, hh⟩ := hP
  have hx := Bd.exec
  have hby := Bd.bytes
  have hml : cd.maxLocals = 1 := hml0
  have hown : s.vm.findClass "java/lang/String" = some mt.cls := findClass_of_methodNamed Bd.named
  have hlk : meth.locks = false := BodyLoose.notSynchronized Bd
  have hrt := Bd.returns
  have X0 : Stand p l e r_slen s mt args below meth cd s₁ [] 0 0 := Stand.of_body Bd
  have e0 : s₁.heap = h0 := by rw [← hh, Bd.state]; rfl
  have N0 := Fr.nil n0
  show Win p e below (Ends s (Q_slen Z a bs ks zs vs co n f h0 n0) r_slen.cells r_slen.slots) s₁ (entryFrame mt args 1)
  rw [hA, ef_slen]
  obtain ⟨cs, u, S0, hcs, S1, hu, S2, S3, S4⟩ := id ST
  rcases H with ⟨hn, ⟨rfl, rfl, HE⟩ | ⟨rfl, rfl, HE⟩⟩
  · show Win _ _ _ _ s₁ (mkF mt 0 #[.val (.ref a)] [])
    refine w_aloadN X0 hx hby d3_0 rfl rfl ?_
    obtain ⟨T17, X17, e17, st17⟩ := getF X0 hx hZ hown (host := "") (Or.inl (ow hw 24 rfl)) Via.refl e0 Fv (g := (mkF mt 1 #[.val (.ref a)] [(.ref a)])) rfl rfl (hb hby d3_1)
    refine Win.st ?_ st17
    show Win _ _ _ _ T17 (mkF mt 4 #[.val (.ref a)] [(.ref bs)])
    refine Win.st ?_ (own_alen (g := (mkF mt 4 #[.val (.ref a)] [(.ref bs)])) X17 hx hZ e17 V rfl rfl (hb hby d3_4))
    refine w_aloadN X17 hx hby d3_5 rfl rfl ?_
    show Win _ _ _ _ T17 (mkF mt 6 #[.val (.ref a)] [(.ref a), (.int (own_I n))])
    obtain ⟨cq18, kq18, q18a, q18b, q18c⟩ := isOf hZ e17 E
    obtain ⟨v18, _, ⟨T18, L18, k18, n18⟩, -, X18, ⟨Lc18, hQ18, l18, rfl, rfl⟩, st18⟩ := X17.virtualBack hx (y := y_0) (z := y_0) hown (mvT hZ (ow hw 66 rfl)) (mvT hZ (ow hw 67 rfl)) (notFace_of_selects (args := #[]) (mvT hZ (ow hw 69 rfl))) (mvT hZ (ow hw 69 rfl)) (mvT hZ (ow hw 68 rfl)) (by decide) (backOf (W := 1) (rm_coder l Z a0 hw [] a (0 : Int32) h0 n0 Z0 Fc (by decide) ST O) hZ (ow hw 70 rfl) (ow hw 6 rfl) (by decide) (by decide)) q18a q18c (g := (mkF mt 6 #[.val (.ref a)] [(.ref a), (.int (own_I n))])) rfl (by rw [hml]; rfl) (Steps.refl _) (argsL := []) (rest := [(.int (own_I n))]) (lenOf pd_0 rfl) rfl (wz rfl) (hb hby d3_6) (fun _ _ => ⟨rfl, e17, (by decide : 0 + 0 ≤ _), (by decide : 0 + 0 ≤ _)⟩)
    replace X18 : Stand p l e _ s mt args below meth cd T18 L18 0 0 := X18
    obtain ⟨rfl, Nq18, eh18⟩ := hQ18
    have N18 := own_fr (L := L18) l18 N0 Nq18
    refine Win.tr ?_ st18
    show Win _ _ _ _ T18 (mkF mt 9 #[.val (.ref a)] [(.int (0 : Int32)), (.int (own_I n))])
    refine Win.st ?_ (fun tq kq => XS.ishr X18.here hx rfl (hb hby d3_9) rfl kq)
    show Win _ _ _ _ T18 (mkF mt 10 #[.val (.ref a)] [(.int ((own_I n) >>> ((0 : Int32) &&& 31)))])
    exact Win.ret X18 hx hlk eh18 hrt rfl (Or.inl ⟨rfl, Or.inl rfl, _, rfl⟩) (hb hby d3_10) (by decide) (by decide) ⟨by rw [own_shr0], N18, rfl⟩
  · show Win _ _ _ _ s₁ (mkF mt 0 #[.val (.ref a)] [])
    refine w_aloadN X0 hx hby d3_0 rfl rfl ?_
    obtain ⟨T19, X19, e19, st19⟩ := getF X0 hx hZ hown (host := "") (Or.inl (ow hw 24 rfl)) Via.refl e0 Fv (g := (mkF mt 1 #[.val (.ref a)] [(.ref a)])) rfl rfl (hb hby d3_1)
    refine Win.st ?_ st19
    show Win _ _ _ _ T19 (mkF mt 4 #[.val (.ref a)] [(.ref bs)])
    refine Win.st ?_ (own_alen (g := (mkF mt 4 #[.val (.ref a)] [(.ref bs)])) X19 hx hZ e19 V rfl rfl (hb hby d3_4))
    refine w_aloadN X19 hx hby d3_5 rfl rfl ?_
    show Win _ _ _ _ T19 (mkF mt 6 #[.val (.ref a)] [(.ref a), (.int (own_I (2 * n)))])
    obtain ⟨cq20, kq20, q20a, q20b, q20c⟩ := isOf hZ e19 E
    obtain ⟨v20, _, ⟨T20, L20, k20, n20⟩, -, X20, ⟨Lc20, hQ20, l20, rfl, rfl⟩, st20⟩ := X19.virtualBack hx (y := y_0) (z := y_0) hown (mvT hZ (ow hw 66 rfl)) (mvT hZ (ow hw 67 rfl)) (notFace_of_selects (args := #[]) (mvT hZ (ow hw 69 rfl))) (mvT hZ (ow hw 69 rfl)) (mvT hZ (ow hw 68 rfl)) (by decide) (backOf (W := 1) (rm_coder l Z a0 hw [] a (1 : Int32) h0 n0 Z0 Fc (by decide) ST O) hZ (ow hw 70 rfl) (ow hw 6 rfl) (by decide) (by decide)) q20a q20c (g := (mkF mt 6 #[.val (.ref a)] [(.ref a), (.int (own_I (2 * n)))])) rfl (by rw [hml]; rfl) (Steps.refl _) (argsL := []) (rest := [(.int (own_I (2 * n)))]) (lenOf pd_0 rfl) rfl (wz rfl) (hb hby d3_6) (fun _ _ => ⟨rfl, e19, (by decide : 0 + 0 ≤ _), (by decide : 0 + 0 ≤ _)⟩)
    replace X20 : Stand p l e _ s mt args below meth cd T20 L20 0 0 := X20
    obtain ⟨rfl, Nq20, eh20⟩ := hQ20
    have N20 := own_fr (L := L20) l20 N0 Nq20
    refine Win.tr ?_ st20
    show Win _ _ _ _ T20 (mkF mt 9 #[.val (.ref a)] [(.int (1 : Int32)), (.int (own_I (2 * n)))])
    refine Win.st ?_ (fun tq kq => XS.ishr X20.here hx rfl (hb hby d3_9) rfl kq)
    show Win _ _ _ _ T20 (mkF mt 10 #[.val (.ref a)] [(.int ((own_I (2 * n)) >>> ((1 : Int32) &&& 31)))])
    exact Win.ret X20 hx hlk eh20 hrt rfl (Or.inl ⟨rfl, Or.inl rfl, _, rfl⟩) (hb hby d3_10) (by decide) (by decide) ⟨by rw [own_shr1 hn], N20, rfl⟩
abbrev k4 : ByteArray := jdk_41_method_11_code
theorem d4_0 : decode k4 0 = .ok (.iload_n 0, 1) := by decide +kernel
theorem d4_1 : decode k4 1 = .ok (.ifCond .lt 8, 3) := by decide +kernel
theorem d4_4 : decode k4 4 = .ok (.iload_n 0, 1) := by decide +kernel
theorem d4_5 : decode k4 5 = .ok (.iload_n 1, 1) := by decide +kernel
theorem d4_6 : decode k4 6 = .ok (.if_icmp .lt 10, 3) := by decide +kernel
theorem d4_16 : decode k4 16 = .ok (.iload_n 0, 1) := by decide +kernel
theorem d4_17 : decode k4 17 = .ok (.ireturn, 1) := by decide +kernel
abbrev y_4 : MethodName := ⟨"jdk/internal/util/Preconditions", "checkIndex", "(IILjava/util/function/BiFunction;)I"⟩
abbrev r_pci : Room := { frames := 0, cells := 0, slots := 0, locals := 0 }
theorem pn_2 : plainName "jdk/internal/util/Preconditions" = true := by first | (simp [plainName, overriddenIn]; done) | decide +kernel
theorem ef_pci (mt : MethodId) (j : Int32) (n_ : Int32) (u : Value) (hu : u.isRef = true) : entryFrame mt #[(.int j), (.int n_), u] 3 = mkF mt 0 #[.val (.int j), .val (.int n_), .val u] [] := by rcases ref_cases hu with rfl | ⟨z, rfl⟩ <;> first | (simp [entryFrame, mkF, argsToLocals, Value.category]; done) | rfl
def Q_pci (Z : State) (j : Int32) (n_ : Int32) (u : Value) (h0 : Heap) (n0 : Nat) (v : Option Value) (h : Heap) (L : List Loc) : Prop := v = some (.int j) ∧ Fr n0 L ∧ h = h0
theorem rm_pci (l : Launch) (Z : State) (a0 : Array Value) (hw : ∀ d ∈ tables_1, d.before a0 Z = true) (ws : List Jvm.Cond) (j : Int32) (n_ : Int32) (u : Value) (h0 : Heap) (n0 : Nat) (Z0 : n0 ≤ h0.size) (hu : u.isRef = true) (h1 : ¬ j < 0) (h2 : j < n_) :
    Met l y_4 k4 3 (some .int) ws r_pci #[(.int j), (.int n_), u] Z h0 (Q_pci Z j n_ u h0 n0) := by
  refine MetFree.of_bodySF (plainFor_of_name pn_2) hisR ?_
  intro p e s mt args below meth cd s₁ Bd hml0 hP hK
  obtain ⟨hA, hZ, hh⟩ := hP
  have hx := Bd.exec
  have hby := Bd.bytes
  have hml : cd.maxLocals = 3 := hml0
  have hlk : meth.locks = false := BodyLoose.notSynchronized Bd
  have hrt := Bd.returns
  have X0 : Stand p l e r_pci s mt args below meth cd s₁ [] 0 0 := Stand.of_body Bd
  have e0 : s₁.heap = h0 := by rw [← hh, Bd.state]; rfl
  have N0 := Fr.nil n0
  show Win p e below (Ends s (Q_pci Z j n_ u h0 n0) r_pci.cells r_pci.slots) s₁ (entryFrame mt args 3)
  rw [hA, ef_pci mt _ _ _ hu]
  refine w_iloadN X0 hx hby d4_0 rfl ?_
  refine Win.st ?_ (fun tq kq => XS.ifNo X0.here hx rfl (hb hby d4_1) rfl ((if0 _ _).trans (flt h1).1) kq)
  refine w_iloadN X0 hx hby d4_4 rfl ?_
  refine w_iloadN X0 hx hby d4_5 rfl ?_
  refine Win.st ?_ (fun tq kq => XS.icmpYes X0.here hx rfl (pc0 := 6) (pc' := 16) rfl (hb hby d4_6) rfl (tlt h2).1 (by decide) (by decide) kq)
  refine w_iloadN X0 hx hby d4_16 rfl ?_
  show Win _ _ _ _ s₁ (mkF mt 17 #[.val (.int j), .val (.int n_), .val u] [(.int j)])
  exact Win.ret X0 hx hlk e0 hrt rfl (Or.inl ⟨rfl, Or.inl rfl, _, rfl⟩) (hb hby d4_17) (by decide) (by decide) ⟨rfl, N0, rfl⟩
abbrev k5 : ByteArray := jdk_42_method_155_code
theorem d5_0 : decode k5 0 = .ok (.iload_n 0, 1) := by decide +kernel
theorem d5_1 : decode k5 1 = .ok (.iload_n 1, 1) := by decide +kernel
theorem d5_2 : decode k5 2 = .ok (.getstatic 1053, 3) := by decide +kernel
theorem d5_5 : decode k5 5 = .ok (.invokestatic 1059, 3) := by decide +kernel
theorem pd_1 : parseMethodDescriptor "(IILjava/util/function/BiFunction;)I" = some ⟨[.int, .int, (.object "java/util/function/BiFunction")], some .int⟩ := by decide +kernel
theorem d5_8 : decode k5 8 = .ok (.pop, 1) := by decide +kernel
theorem d5_9 : decode k5 9 = .ok (.return_, 1) := by decide +kernel
abbrev y_5 : MethodName := ⟨"java/lang/String", "checkIndex", "(II)V"⟩
abbrev r_sci : Room := { frames := 1, cells := 0, slots := 0, locals := 14 }
theorem ef_sci (mt : MethodId) (j : Int32) (n_ : Int32) : entryFrame mt #[(.int j), (.int n_)] 2 = mkF mt 0 #[.val (.int j), .val (.int n_)] [] := by first | (simp [entryFrame, mkF, argsToLocals, Value.category]; done) | rfl
def Q_sci (Z : State) (j : Int32) (n_ : Int32) (h0 : Heap) (n0 : Nat) (v : Option Value) (h : Heap) (L : List Loc) : Prop := v = none ∧ Fr n0 L ∧ h = h0
theorem rm_sci (l : Launch) (Z : State) (a0 : Array Value) (hw : ∀ d ∈ tables_1, d.before a0 Z = true) (ws : List Jvm.Cond) (j : Int32) (n_ : Int32) (h0 : Heap) (n0 : Nat) (Z0 : n0 ≤ h0.size) (h1 : ¬ j < 0) (h2 : j < n_) (ST : own_St Z) (O : Old Z n0 h0) :
    Met l y_5 k5 2 none ws r_sci #[(.int j), (.int n_)] Z h0 (Q_sci Z j n_ h0 n0) := by
  refine MetFree.of_bodySF (plainFor_of_name pn_0) hisR ?_
  intro p e s mt args below meth cd s₁ Bd hml0 hP hK
  obtain ⟨hA, hZ, hh⟩ := hP
  have hx := Bd.exec
  have hby := Bd.bytes
  have hml : cd.maxLocals = 2 := hml0
  have hown : s.vm.findClass "java/lang/String" = some mt.cls := findClass_of_methodNamed Bd.named
  have hlk : meth.locks = false := BodyLoose.notSynchronized Bd
  have hrt := Bd.returns
  have X0 : Stand p l e r_sci s mt args below meth cd s₁ [] 0 0 := Stand.of_body Bd
  have e0 : s₁.heap = h0 := by rw [← hh, Bd.state]; rfl
  have N0 := Fr.nil n0
  show Win p e below (Ends s (Q_sci Z j n_ h0 n0) r_sci.cells r_sci.slots) s₁ (entryFrame mt args 2)
  rw [hA, ef_sci]
  obtain ⟨cs, u, S0, hcs, S1, hu, S2, S3, S4⟩ := id ST
  refine w_iloadN X0 hx hby d5_0 rfl ?_
  refine w_iloadN X0 hx hby d5_1 rfl ?_
  obtain ⟨T21, X21, e21, st21⟩ := getS2 X0 hx hZ hown (host := "") (Or.inl (ow hw 225 rfl)) Via.refl e0 (S1.ext O.2) (g := (mkF mt 2 #[.val (.int j), .val (.int n_)] [(.int n_), (.int j)])) rfl (hb hby d5_2)
  refine Win.st ?_ st21
  show Win _ _ _ _ T21 (mkF mt 5 #[.val (.int j), .val (.int n_)] [u, (.int n_), (.int j)])
  obtain ⟨v22, _, ⟨T22, L22, k22, n22⟩, -, X22, ⟨Lc22, hQ22, l22, rfl, rfl⟩, st22⟩ := Jvm.LawKit.callS X21 hx (y := y_4) hown (mvT hZ (ow hw 227 rfl)) (mvT hZ (ow hw 228 rfl)) (mvT hZ (ow hw 226 rfl)) (mvT hZ (ow hw 229 rfl)) (by decide) (backOf (W := 0) (rm_pci l Z a0 hw [] j n_ u h0 n0 Z0 hu h1 h2) hZ (ow hw 229 rfl) (ow hw 226 rfl) (by decide) (by decide)) (g := (mkF mt 5 #[.val (.int j), .val (.int n_)] [u, (.int n_), (.int j)])) rfl (by rw [hml]; rfl) (argsL := [(.int j), (.int n_), u]) (rest := []) (lenOf pd_1 rfl) rfl (wz rfl) (hb hby d5_5) (fun _ _ => ⟨rfl, e21, (by decide : 0 + 0 ≤ _), (by decide : 0 + 0 ≤ _)⟩)
  replace X22 : Stand p l e _ s mt args below meth cd T22 L22 0 0 := X22
  obtain ⟨rfl, Nq22, eh22⟩ := hQ22
  have N22 := own_fr (L := L22) l22 N0 Nq22
  refine Win.st ?_ st22
  show Win _ _ _ _ T22 (mkF mt 8 #[.val (.int j), .val (.int n_)] [(.int j)])
  refine Win.st ?_ (fun tq kq => XS.pop X22.here hx rfl (hb hby d5_8) rfl rfl kq)
  show Win _ _ _ _ T22 (mkF mt 9 #[.val (.int j), .val (.int n_)] [])
  exact Win.retV X22 hx hlk eh22 hrt (hb hby d5_9) (by decide) (by decide) ⟨rfl, N22, rfl⟩
abbrev k6 : ByteArray := jdk_52_method_6_code
theorem d6_0 : decode k6 0 = .ok (.aload_n 0, 1) := by decide +kernel
theorem d6_1 : decode k6 1 = .ok (.arraylength, 1) := by decide +kernel
theorem d6_2 : decode k6 2 = .ok (.iconst 1, 1) := by decide +kernel
theorem d6_3 : decode k6 3 = .ok (.ishr, 1) := by decide +kernel
theorem d6_4 : decode k6 4 = .ok (.ireturn, 1) := by decide +kernel
abbrev y_6 : MethodName := ⟨"java/lang/StringUTF16", "length", "([B)I"⟩
abbrev r_u16len : Room := { frames := 0, cells := 0, slots := 0, locals := 0 }
theorem pn_3 : plainName "java/lang/StringUTF16" = true := by first | (simp [plainName, overriddenIn]; done) | decide +kernel
theorem ef_u16len (mt : MethodId) (b : Addr) : entryFrame mt #[(.ref b)] 1 = mkF mt 0 #[.val (.ref b)] [] := by first | (simp [entryFrame, mkF, argsToLocals, Value.category]; done) | rfl
def Q_u16len (Z : State) (b : Addr) (k : ClassId) (z : Int32) (vs : List Value) (h0 : Heap) (n0 : Nat) (v : Option Value) (h : Heap) (L : List Loc) : Prop := v = some (.int (z >>> ((1 : Int32) &&& 31))) ∧ Fr n0 L ∧ h = h0
theorem rm_u16len (l : Launch) (Z : State) (a0 : Array Value) (hw : ∀ d ∈ tables_1, d.before a0 Z = true) (ws : List Jvm.Cond) (b : Addr) (k : ClassId) (z : Int32) (vs : List Value) (h0 : Heap) (n0 : Nat) (Z0 : n0 ≤ h0.size) (V : Arv Z h0 b k .byte z vs (.int (0 : Int32))) :
    Met l y_6 k6 1 (some .int) ws r_u16len #[(.ref b)] Z h0 (Q_u16len Z b k z vs h0 n0) := by
  refine MetFree.of_bodySF (plainFor_of_name pn_3) hisR ?_
  intro p e s mt args below meth cd s₁ Bd hml0 hP hK
  obtain ⟨hA, hZ, hh⟩ := hP
  have hx := Bd.exec
  have hby := Bd.bytes
  have hml : cd.maxLocals = 1 := hml0
  have hlk : meth.locks = false := BodyLoose.notSynchronized Bd
  have hrt := Bd.returns
  have X0 : Stand p l e r_u16len s mt args below meth cd s₁ [] 0 0 := Stand.of_body Bd
  have e0 : s₁.heap = h0 := by rw [← hh, Bd.state]; rfl
  have N0 := Fr.nil n0
  show Win p e below (Ends s (Q_u16len Z b k z vs h0 n0) r_u16len.cells r_u16len.slots) s₁ (entryFrame mt args 1)
  rw [hA, ef_u16len]
  refine w_aloadN X0 hx hby d6_0 rfl rfl ?_
  refine Win.st ?_ (own_alen (g := (mkF mt 1 #[.val (.ref b)] [(.ref b)])) X0 hx hZ e0 V rfl rfl (hb hby d6_1))
  refine w_iconst X0 hx hby d6_2 ?_
  refine Win.st ?_ (fun tq kq => XS.ishr X0.here hx rfl (hb hby d6_3) rfl kq)
  show Win _ _ _ _ s₁ (mkF mt 4 #[.val (.ref b)] [(.int (z >>> ((1 : Int32) &&& 31)))])
  exact Win.ret X0 hx hlk e0 hrt rfl (Or.inl ⟨rfl, Or.inl rfl, _, rfl⟩) (hb hby d6_4) (by decide) (by decide) ⟨rfl, N0, rfl⟩
abbrev k7 : ByteArray := jdk_52_method_91_code
theorem d7_0 : decode k7 0 = .ok (.iload_n 0, 1) := by decide +kernel
theorem d7_1 : decode k7 1 = .ok (.aload_n 1, 1) := by decide +kernel
theorem d7_2 : decode k7 2 = .ok (.invokestatic 48, 3) := by decide +kernel
theorem pd_2 : parseMethodDescriptor "([B)I" = some ⟨[(.array .byte)], some .int⟩ := by decide +kernel
theorem d7_5 : decode k7 5 = .ok (.invokestatic 414, 3) := by decide +kernel
theorem pd_3 : parseMethodDescriptor "(II)V" = some ⟨[.int, .int], none⟩ := by decide +kernel
theorem d7_8 : decode k7 8 = .ok (.return_, 1) := by decide +kernel
abbrev y_7 : MethodName := ⟨"java/lang/StringUTF16", "checkIndex", "(I[B)V"⟩
abbrev r_uci : Room := { frames := 2, cells := 0, slots := 0, locals := 27 }
theorem ef_uci (mt : MethodId) (j : Int32) (b : Addr) : entryFrame mt #[(.int j), (.ref b)] 2 = mkF mt 0 #[.val (.int j), .val (.ref b)] [] := by first | (simp [entryFrame, mkF, argsToLocals, Value.category]; done) | rfl
def Q_uci (Z : State) (j : Int32) (b : Addr) (k : ClassId) (z : Int32) (vs : List Value) (h0 : Heap) (n0 : Nat) (v : Option Value) (h : Heap) (L : List Loc) : Prop := v = none ∧ Fr n0 L ∧ h = h0
theorem rm_uci (l : Launch) (Z : State) (a0 : Array Value) (hw : ∀ d ∈ tables_1, d.before a0 Z = true) (ws : List Jvm.Cond) (j : Int32) (b : Addr) (k : ClassId) (z : Int32) (vs : List Value) (h0 : Heap) (n0 : Nat) (Z0 : n0 ≤ h0.size) (V : Arv Z h0 b k .byte z vs (.int (0 : Int32))) (h1 : ¬ j < 0) (h2 : j < z >>> ((1 : Int32) &&& 31)) (ST : own_St Z) (O : Old Z n0 h0) :
    Met l y_7 k7 2 none ws r_uci #[(.int j), (.ref b)] Z h0 (Q_uci Z j b k z vs h0 n0) := by
  refine MetFree.of_bodySF (plainFor_of_name pn_3) hisR ?_
  intro p e s mt args below meth cd s₁ Bd hml0 hP hK
  obtain ⟨hA, hZ, hh⟩ := hP
  have hx := Bd.exec
  have hby := Bd.bytes
  have hml : cd.maxLocals = 2 := hml0
  have hown : s.vm.findClass "java/lang/StringUTF16" = some mt.cls := findClass_of_methodNamed Bd.named
  have hlk : meth.locks = false := BodyLoose.notSynchronized Bd
  have hrt := Bd.returns
  have X0 : Stand p l e r_uci s mt args below meth cd s₁ [] 0 0 := Stand.of_body Bd
  have e0 : s₁.heap = h0 := by rw [← hh, Bd.state]; rfl
  have N0 := Fr.nil n0
  show Win p e below (Ends s (Q_uci Z j b k z vs h0 n0) r_uci.cells r_uci.slots) s₁ (entryFrame mt args 2)
  rw [hA, ef_uci]
  obtain ⟨cs, u, S0, hcs, S1, hu, S2, S3, S4⟩ := id ST
  refine w_iloadN X0 hx hby d7_0 rfl ?_
  refine w_aloadN X0 hx hby d7_1 rfl rfl ?_
  show Win _ _ _ _ s₁ (mkF mt 2 #[.val (.int j), .val (.ref b)] [(.ref b), (.int j)])
  obtain ⟨v23, _, ⟨T23, L23, k23, n23⟩, -, X23, ⟨Lc23, hQ23, l23, rfl, rfl⟩, st23⟩ := Jvm.LawKit.callS X0 hx (y := y_6) hown (mvT hZ (ow hw 288 rfl)) (mvT hZ (ow hw 289 rfl)) (mvT hZ (ow hw 232 rfl)) (mvT hZ (ow hw 290 rfl)) (by decide) (backOf (W := 1) (rm_u16len l Z a0 hw [] b k z vs h0 n0 Z0 V) hZ (ow hw 290 rfl) (ow hw 232 rfl) (by decide) (by decide)) (g := (mkF mt 2 #[.val (.int j), .val (.ref b)] [(.ref b), (.int j)])) rfl (by rw [hml]; rfl) (argsL := [(.ref b)]) (rest := [(.int j)]) (lenOf pd_2 rfl) rfl (wz rfl) (hb hby d7_2) (fun _ _ => ⟨rfl, e0, (by decide : 0 + 0 ≤ _), (by decide : 0 + 0 ≤ _)⟩)
  replace X23 : Stand p l e _ s mt args below meth cd T23 L23 0 0 := X23
  obtain ⟨rfl, Nq23, eh23⟩ := hQ23
  have N23 := own_fr (L := L23) l23 N0 Nq23
  refine Win.st ?_ st23
  show Win _ _ _ _ T23 (mkF mt 5 #[.val (.int j), .val (.ref b)] [(.int (z >>> ((1 : Int32) &&& 31))), (.int j)])
  obtain ⟨v24, _, ⟨T24, L24, k24, n24⟩, -, X24, ⟨Lc24, hQ24, l24, rfl, rfl⟩, st24⟩ := Jvm.LawKit.callS X23 hx (y := y_5) hown (mvT hZ (ow hw 306 rfl)) (mvT hZ (ow hw 223 rfl)) (mvT hZ (ow hw 6 rfl)) (mvT hZ (ow hw 224 rfl)) (by decide) (backOf (W := 0) (rm_sci l Z a0 hw [] j (z >>> ((1 : Int32) &&& 31)) h0 n0 Z0 h1 h2 ST O) hZ (ow hw 224 rfl) (ow hw 6 rfl) (by decide) (by decide)) (g := (mkF mt 5 #[.val (.int j), .val (.ref b)] [(.int (z >>> ((1 : Int32) &&& 31))), (.int j)])) rfl (by rw [hml]; rfl) (argsL := [(.int j), (.int (z >>> ((1 : Int32) &&& 31)))]) (rest := []) (lenOf pd_3 rfl) rfl (wz rfl) (hb hby d7_5) (fun _ _ => ⟨rfl, eh23, (by decide : 0 + 0 ≤ _), (by decide : 0 + 0 ≤ _)⟩)
  replace X24 : Stand p l e _ s mt args below meth cd T24 L24 0 0 := X24
  obtain ⟨rfl, Nq24, eh24⟩ := hQ24
  have N24 := own_fr (L := L24) l24 N23 Nq24
  refine Win.st ?_ st24
  show Win _ _ _ _ T24 (mkF mt 8 #[.val (.int j), .val (.ref b)] [])
  exact Win.retV X24 hx hlk eh24 hrt (hb hby d7_8) (by decide) (by decide) ⟨rfl, N24, rfl⟩
abbrev k8 : ByteArray := jdk_41_method_13_code
theorem d8_0 : decode k8 0 = .ok (.iload_n 2, 1) := by decide +kernel
theorem d8_1 : decode k8 1 = .ok (.iload_n 0, 1) := by decide +kernel
theorem d8_2 : decode k8 2 = .ok (.ior, 1) := by decide +kernel
theorem d8_3 : decode k8 3 = .ok (.iload_n 1, 1) := by decide +kernel
theorem d8_4 : decode k8 4 = .ok (.ior, 1) := by decide +kernel
theorem d8_5 : decode k8 5 = .ok (.ifCond .lt 10, 3) := by decide +kernel
theorem d8_8 : decode k8 8 = .ok (.iload_n 1, 1) := by decide +kernel
theorem d8_9 : decode k8 9 = .ok (.iload_n 2, 1) := by decide +kernel
theorem d8_10 : decode k8 10 = .ok (.iload_n 0, 1) := by decide +kernel
theorem d8_11 : decode k8 11 = .ok (.isub, 1) := by decide +kernel
theorem d8_12 : decode k8 12 = .ok (.if_icmp .le 11, 3) := by decide +kernel
theorem d8_23 : decode k8 23 = .ok (.iload_n 0, 1) := by decide +kernel
theorem d8_24 : decode k8 24 = .ok (.ireturn, 1) := by decide +kernel
abbrev y_8 : MethodName := ⟨"jdk/internal/util/Preconditions", "checkFromIndexSize", "(IIILjava/util/function/BiFunction;)I"⟩
abbrev r_pcf : Room := { frames := 0, cells := 0, slots := 0, locals := 0 }
theorem ef_pcf (mt : MethodId) (j : Int32) (c_ : Int32) (n_ : Int32) (u : Value) (hu : u.isRef = true) : entryFrame mt #[(.int j), (.int c_), (.int n_), u] 4 = mkF mt 0 #[.val (.int j), .val (.int c_), .val (.int n_), .val u] [] := by rcases ref_cases hu with rfl | ⟨z, rfl⟩ <;> first | (simp [entryFrame, mkF, argsToLocals, Value.category]; done) | rfl
def Q_pcf (Z : State) (j : Int32) (c_ : Int32) (n_ : Int32) (u : Value) (h0 : Heap) (n0 : Nat) (v : Option Value) (h : Heap) (L : List Loc) : Prop := v = some (.int j) ∧ Fr n0 L ∧ h = h0
theorem rm_pcf (l : Launch) (Z : State) (a0 : Array Value) (hw : ∀ d ∈ tables_1, d.before a0 Z = true) (ws : List Jvm.Cond) (j : Int32) (c_ : Int32) (n_ : Int32) (u : Value) (h0 : Heap) (n0 : Nat) (Z0 : n0 ≤ h0.size) (hu : u.isRef = true) (h1 : ¬ (((n_ ||| j) ||| c_) < 0)) (h2 : ¬ (n_ - j) < c_) :
    Met l y_8 k8 4 (some .int) ws r_pcf #[(.int j), (.int c_), (.int n_), u] Z h0 (Q_pcf Z j c_ n_ u h0 n0) := by
  refine MetFree.of_bodySF (plainFor_of_name pn_2) hisR ?_
  intro p e s mt args below meth cd s₁ Bd hml0 hP hK
  obtain ⟨hA, hZ, hh⟩ := hP
  have hx := Bd.exec
  have hby := Bd.bytes
  have hml : cd.maxLocals = 4 := hml0
  have hlk : meth.locks = false := BodyLoose.notSynchronized Bd
  have hrt := Bd.returns
  have X0 : Stand p l e r_pcf s mt args below meth cd s₁ [] 0 0 := Stand.of_body Bd
  have e0 : s₁.heap = h0 := by rw [← hh, Bd.state]; rfl
  have N0 := Fr.nil n0
  show Win p e below (Ends s (Q_pcf Z j c_ n_ u h0 n0) r_pcf.cells r_pcf.slots) s₁ (entryFrame mt args 4)
  rw [hA, ef_pcf mt _ _ _ _ hu]
  refine w_iloadN X0 hx hby d8_0 rfl ?_
  refine w_iloadN X0 hx hby d8_1 rfl ?_
  show Win _ _ _ _ s₁ (mkF mt 2 #[.val (.int j), .val (.int c_), .val (.int n_), .val u] [(.int j), (.int n_)])
  refine Win.st ?_ (fun tq kq => XS.ior X0.here hx rfl (hb hby d8_2) rfl kq)
  refine w_iloadN X0 hx hby d8_3 rfl ?_
  show Win _ _ _ _ s₁ (mkF mt 4 #[.val (.int j), .val (.int c_), .val (.int n_), .val u] [(.int c_), (.int (n_ ||| j))])
  refine Win.st ?_ (fun tq kq => XS.ior X0.here hx rfl (hb hby d8_4) rfl kq)
  show Win _ _ _ _ s₁ (mkF mt 5 #[.val (.int j), .val (.int c_), .val (.int n_), .val u] [(.int ((n_ ||| j) ||| c_))])
  refine Win.st ?_ (fun tq kq => XS.ifNo X0.here hx rfl (hb hby d8_5) rfl ((if0 _ _).trans (flt h1).1) kq)
  refine w_iloadN X0 hx hby d8_8 rfl ?_
  refine w_iloadN X0 hx hby d8_9 rfl ?_
  refine w_iloadN X0 hx hby d8_10 rfl ?_
  refine Win.st ?_ (fun tq kq => XS.isub X0.here hx rfl (hb hby d8_11) rfl kq)
  show Win _ _ _ _ s₁ (mkF mt 12 #[.val (.int j), .val (.int c_), .val (.int n_), .val u] [(.int (n_ - j)), (.int c_)])
  refine Win.st ?_ (fun tq kq => XS.icmpYes X0.here hx rfl (pc0 := 12) (pc' := 23) rfl (hb hby d8_12) rfl (flt h2).2.2.2 (by decide) (by decide) kq)
  refine w_iloadN X0 hx hby d8_23 rfl ?_
  show Win _ _ _ _ s₁ (mkF mt 24 #[.val (.int j), .val (.int c_), .val (.int n_), .val u] [(.int j)])
  exact Win.ret X0 hx hlk e0 hrt rfl (Or.inl ⟨rfl, Or.inl rfl, _, rfl⟩) (hb hby d8_24) (by decide) (by decide) ⟨rfl, N0, rfl⟩
abbrev k9 : ByteArray := jdk_42_method_157_code
theorem d9_0 : decode k9 0 = .ok (.iload_n 0, 1) := by decide +kernel
theorem d9_1 : decode k9 1 = .ok (.iload_n 1, 1) := by decide +kernel
theorem d9_2 : decode k9 2 = .ok (.iload_n 2, 1) := by decide +kernel
theorem d9_3 : decode k9 3 = .ok (.getstatic 1053, 3) := by decide +kernel
theorem d9_6 : decode k9 6 = .ok (.invokestatic 1065, 3) := by decide +kernel
theorem pd_4 : parseMethodDescriptor "(IIILjava/util/function/BiFunction;)I" = some ⟨[.int, .int, .int, (.object "java/util/function/BiFunction")], some .int⟩ := by decide +kernel
theorem d9_9 : decode k9 9 = .ok (.ireturn, 1) := by decide +kernel
abbrev y_9 : MethodName := ⟨"java/lang/String", "checkBoundsOffCount", "(III)I"⟩
abbrev r_scb : Room := { frames := 1, cells := 0, slots := 0, locals := 15 }
theorem ef_scb (mt : MethodId) (j : Int32) (c_ : Int32) (n_ : Int32) : entryFrame mt #[(.int j), (.int c_), (.int n_)] 3 = mkF mt 0 #[.val (.int j), .val (.int c_), .val (.int n_)] [] := by first | (simp [entryFrame, mkF, argsToLocals, Value.category]; done) | rfl
def Q_scb (Z : State) (j : Int32) (c_ : Int32) (n_ : Int32) (h0 : Heap) (n0 : Nat) (v : Option Value) (h : Heap) (L : List Loc) : Prop := v = some (.int j) ∧ Fr n0 L ∧ h = h0
theorem rm_scb (l : Launch) (Z : State) (a0 : Array Value) (hw : ∀ d ∈ tables_1, d.before a0 Z = true) (ws : List Jvm.Cond) (j : Int32) (c_ : Int32) (n_ : Int32) (h0 : Heap) (n0 : Nat) (Z0 : n0 ≤ h0.size) (h1 : ¬ (((n_ ||| j) ||| c_) < 0)) (h2 : ¬ (n_ - j) < c_) (ST : own_St Z) (O : Old Z n0 h0) :
    Met l y_9 k9 3 (some .int) ws r_scb #[(.int j), (.int c_), (.int n_)] Z h0 (Q_scb Z j c_ n_ h0 n0) := by
  refine MetFree.of_bodySF (plainFor_of_name pn_0) hisR ?_
  intro p e s mt args below meth cd s₁ Bd hml0 hP hK
  obtain ⟨hA, hZ, hh⟩ := hP
  have hx := Bd.exec
  have hby := Bd.bytes
  have hml : cd.maxLocals = 3 := hml0
  have hown : s.vm.findClass "java/lang/String" = some mt.cls := findClass_of_methodNamed Bd.named
  have hlk : meth.locks = false := BodyLoose.notSynchronized Bd
  have hrt := Bd.returns
  have X0 : Stand p l e r_scb s mt args below meth cd s₁ [] 0 0 := Stand.of_body Bd
  have e0 : s₁.heap = h0 := by rw [← hh, Bd.state]; rfl
  have N0 := Fr.nil n0
  show Win p e below (Ends s (Q_scb Z j c_ n_ h0 n0) r_scb.cells r_scb.slots) s₁ (entryFrame mt args 3)
  rw [hA, ef_scb]
  obtain ⟨cs, u, S0, hcs, S1, hu, S2, S3, S4⟩ := id ST
  refine w_iloadN X0 hx hby d9_0 rfl ?_
  refine w_iloadN X0 hx hby d9_1 rfl ?_
  refine w_iloadN X0 hx hby d9_2 rfl ?_
  obtain ⟨T25, X25, e25, st25⟩ := getS2 X0 hx hZ hown (host := "") (Or.inl (ow hw 225 rfl)) Via.refl e0 (S1.ext O.2) (g := (mkF mt 3 #[.val (.int j), .val (.int c_), .val (.int n_)] [(.int n_), (.int c_), (.int j)])) rfl (hb hby d9_3)
  refine Win.st ?_ st25
  show Win _ _ _ _ T25 (mkF mt 6 #[.val (.int j), .val (.int c_), .val (.int n_)] [u, (.int n_), (.int c_), (.int j)])
  obtain ⟨v26, _, ⟨T26, L26, k26, n26⟩, -, X26, ⟨Lc26, hQ26, l26, rfl, rfl⟩, st26⟩ := Jvm.LawKit.callS X25 hx (y := y_8) hown (mvT hZ (ow hw 294 rfl)) (mvT hZ (ow hw 295 rfl)) (mvT hZ (ow hw 226 rfl)) (mvT hZ (ow hw 296 rfl)) (by decide) (backOf (W := 0) (rm_pcf l Z a0 hw [] j c_ n_ u h0 n0 Z0 hu h1 h2) hZ (ow hw 296 rfl) (ow hw 226 rfl) (by decide) (by decide)) (g := (mkF mt 6 #[.val (.int j), .val (.int c_), .val (.int n_)] [u, (.int n_), (.int c_), (.int j)])) rfl (by rw [hml]; rfl) (argsL := [(.int j), (.int c_), (.int n_), u]) (rest := []) (lenOf pd_4 rfl) rfl (wz rfl) (hb hby d9_6) (fun _ _ => ⟨rfl, e25, (by decide : 0 + 0 ≤ _), (by decide : 0 + 0 ≤ _)⟩)
  replace X26 : Stand p l e _ s mt args below meth cd T26 L26 0 0 := X26
  obtain ⟨rfl, Nq26, eh26⟩ := hQ26
  have N26 := own_fr (L := L26) l26 N0 Nq26
  refine Win.st ?_ st26
  show Win _ _ _ _ T26 (mkF mt 9 #[.val (.int j), .val (.int c_), .val (.int n_)] [(.int j)])
  exact Win.ret X26 hx hlk eh26 hrt rfl (Or.inl ⟨rfl, Or.inl rfl, _, rfl⟩) (hb hby d9_9) (by decide) (by decide) ⟨rfl, N26, rfl⟩
abbrev k10 : ByteArray := jdk_52_method_94_code
theorem d10_0 : decode k10 0 = .ok (.iload_n 0, 1) := by decide +kernel
theorem d10_1 : decode k10 1 = .ok (.iload_n 1, 1) := by decide +kernel
theorem d10_2 : decode k10 2 = .ok (.aload_n 2, 1) := by decide +kernel
theorem d10_3 : decode k10 3 = .ok (.invokestatic 48, 3) := by decide +kernel
theorem d10_6 : decode k10 6 = .ok (.invokestatic 419, 3) := by decide +kernel
theorem pd_5 : parseMethodDescriptor "(III)I" = some ⟨[.int, .int, .int], some .int⟩ := by decide +kernel
theorem d10_9 : decode k10 9 = .ok (.pop, 1) := by decide +kernel
theorem d10_10 : decode k10 10 = .ok (.return_, 1) := by decide +kernel
abbrev y_10 : MethodName := ⟨"java/lang/StringUTF16", "checkBoundsOffCount", "(II[B)V"⟩
abbrev r_ucb : Room := { frames := 2, cells := 0, slots := 0, locals := 29 }
theorem ef_ucb (mt : MethodId) (j : Int32) (c_ : Int32) (b : Addr) : entryFrame mt #[(.int j), (.int c_), (.ref b)] 3 = mkF mt 0 #[.val (.int j), .val (.int c_), .val (.ref b)] [] := by first | (simp [entryFrame, mkF, argsToLocals, Value.category]; done) | rfl
def Q_ucb (Z : State) (j : Int32) (c_ : Int32) (b : Addr) (k : ClassId) (z : Int32) (vs : List Value) (h0 : Heap) (n0 : Nat) (v : Option Value) (h : Heap) (L : List Loc) : Prop := v = none ∧ Fr n0 L ∧ h = h0
theorem rm_ucb (l : Launch) (Z : State) (a0 : Array Value) (hw : ∀ d ∈ tables_1, d.before a0 Z = true) (ws : List Jvm.Cond) (j : Int32) (c_ : Int32) (b : Addr) (k : ClassId) (z : Int32) (vs : List Value) (h0 : Heap) (n0 : Nat) (Z0 : n0 ≤ h0.size) (V : Arv Z h0 b k .byte z vs (.int (0 : Int32))) (h1 : ¬ ((((z >>> ((1 : Int32) &&& 31)) ||| j) ||| c_) < 0)) (h2 : ¬ ((z >>> ((1 : Int32) &&& 31)) - j) < c_) (ST : own_St Z) (O : Old Z n0 h0) :
    Met l y_10 k10 3 none ws r_ucb #[(.int j), (.int c_), (.ref b)] Z h0 (Q_ucb Z j c_ b k z vs h0 n0) := by
  refine MetFree.of_bodySF (plainFor_of_name pn_3) hisR ?_
  intro p e s mt args below meth cd s₁ Bd hml0 hP hK
  obtain ⟨hA, hZ, hh⟩ := hP
  have hx := Bd.exec
  have hby := Bd.bytes
  have hml : cd.maxLocals = 3 := hml0
  have hown : s.vm.findClass "java/lang/StringUTF16" = some mt.cls := findClass_of_methodNamed Bd.named
  have hlk : meth.locks = false := BodyLoose.notSynchronized Bd
  have hrt := Bd.returns
  have X0 : Stand p l e r_ucb s mt args below meth cd s₁ [] 0 0 := Stand.of_body Bd
  have e0 : s₁.heap = h0 := by rw [← hh, Bd.state]; rfl
  have N0 := Fr.nil n0
  show Win p e below (Ends s (Q_ucb Z j c_ b k z vs h0 n0) r_ucb.cells r_ucb.slots) s₁ (entryFrame mt args 3)
  rw [hA, ef_ucb]
  obtain ⟨cs, u, S0, hcs, S1, hu, S2, S3, S4⟩ := id ST
  refine w_iloadN X0 hx hby d10_0 rfl ?_
  refine w_iloadN X0 hx hby d10_1 rfl ?_
  refine w_aloadN X0 hx hby d10_2 rfl rfl ?_
  show Win _ _ _ _ s₁ (mkF mt 3 #[.val (.int j), .val (.int c_), .val (.ref b)] [(.ref b), (.int c_), (.int j)])
  obtain ⟨v27, _, ⟨T27, L27, k27, n27⟩, -, X27, ⟨Lc27, hQ27, l27, rfl, rfl⟩, st27⟩ := Jvm.LawKit.callS X0 hx (y := y_6) hown (mvT hZ (ow hw 288 rfl)) (mvT hZ (ow hw 289 rfl)) (mvT hZ (ow hw 232 rfl)) (mvT hZ (ow hw 290 rfl)) (by decide) (backOf (W := 2) (rm_u16len l Z a0 hw [] b k z vs h0 n0 Z0 V) hZ (ow hw 290 rfl) (ow hw 232 rfl) (by decide) (by decide)) (g := (mkF mt 3 #[.val (.int j), .val (.int c_), .val (.ref b)] [(.ref b), (.int c_), (.int j)])) rfl (by rw [hml]; rfl) (argsL := [(.ref b)]) (rest := [(.int c_), (.int j)]) (lenOf pd_2 rfl) rfl (wz rfl) (hb hby d10_3) (fun _ _ => ⟨rfl, e0, (by decide : 0 + 0 ≤ _), (by decide : 0 + 0 ≤ _)⟩)
  replace X27 : Stand p l e _ s mt args below meth cd T27 L27 0 0 := X27
  obtain ⟨rfl, Nq27, eh27⟩ := hQ27
  have N27 := own_fr (L := L27) l27 N0 Nq27
  refine Win.st ?_ st27
  show Win _ _ _ _ T27 (mkF mt 6 #[.val (.int j), .val (.int c_), .val (.ref b)] [(.int (z >>> ((1 : Int32) &&& 31))), (.int c_), (.int j)])
  obtain ⟨v28, _, ⟨T28, L28, k28, n28⟩, -, X28, ⟨Lc28, hQ28, l28, rfl, rfl⟩, st28⟩ := Jvm.LawKit.callS X27 hx (y := y_9) hown (mvT hZ (ow hw 291 rfl)) (mvT hZ (ow hw 292 rfl)) (mvT hZ (ow hw 6 rfl)) (mvT hZ (ow hw 293 rfl)) (by decide) (backOf (W := 0) (rm_scb l Z a0 hw [] j c_ (z >>> ((1 : Int32) &&& 31)) h0 n0 Z0 h1 h2 ST O) hZ (ow hw 293 rfl) (ow hw 6 rfl) (by decide) (by decide)) (g := (mkF mt 6 #[.val (.int j), .val (.int c_), .val (.ref b)] [(.int (z >>> ((1 : Int32) &&& 31))), (.int c_), (.int j)])) rfl (by rw [hml]; rfl) (argsL := [(.int j), (.int c_), (.int (z >>> ((1 : Int32) &&& 31)))]) (rest := []) (lenOf pd_5 rfl) rfl (wz rfl) (hb hby d10_6) (fun _ _ => ⟨rfl, eh27, (by decide : 0 + 0 ≤ _), (by decide : 0 + 0 ≤ _)⟩)
  replace X28 : Stand p l e _ s mt args below meth cd T28 L28 0 0 := X28
  obtain ⟨rfl, Nq28, eh28⟩ := hQ28
  have N28 := own_fr (L := L28) l28 N27 Nq28
  refine Win.st ?_ st28
  show Win _ _ _ _ T28 (mkF mt 9 #[.val (.int j), .val (.int c_), .val (.ref b)] [(.int j)])
  refine Win.st ?_ (fun tq kq => XS.pop X28.here hx rfl (hb hby d10_9) rfl rfl kq)
  show Win _ _ _ _ T28 (mkF mt 10 #[.val (.int j), .val (.int c_), .val (.ref b)] [])
  exact Win.retV X28 hx hlk eh28 hrt (hb hby d10_10) (by decide) (by decide) ⟨rfl, N28, rfl⟩
abbrev k11 : ByteArray := jdk_52_method_4_code
theorem d11_0 : decode k11 0 = .ok (.getstatic 44, 3) := by decide +kernel
theorem d11_3 : decode k11 3 = .ok (.ifCond .ne 25, 3) := by decide +kernel
theorem d11_28 : decode k11 28 = .ok (.iload_n 1, 1) := by decide +kernel
theorem d11_29 : decode k11 29 = .ok (.iconst 1, 1) := by decide +kernel
theorem d11_30 : decode k11 30 = .ok (.ishl, 1) := by decide +kernel
theorem d11_31 : decode k11 31 = .ok (.istore_n 1, 1) := by decide +kernel
theorem d11_32 : decode k11 32 = .ok (.aload_n 0, 1) := by decide +kernel
theorem d11_33 : decode k11 33 = .ok (.iload_n 1, 1) := by decide +kernel
theorem d11_34 : decode k11 34 = .ok (.iinc 1 1, 3) := by decide +kernel
theorem d11_37 : decode k11 37 = .ok (.iload_n 2, 1) := by decide +kernel
theorem d11_38 : decode k11 38 = .ok (.getstatic 59, 3) := by decide +kernel
theorem d11_41 : decode k11 41 = .ok (.ishr, 1) := by decide +kernel
theorem d11_42 : decode k11 42 = .ok (.i2b, 1) := by decide +kernel
theorem d11_43 : decode k11 43 = .ok (.bastore, 1) := by decide +kernel
theorem d11_44 : decode k11 44 = .ok (.aload_n 0, 1) := by decide +kernel
theorem d11_45 : decode k11 45 = .ok (.iload_n 1, 1) := by decide +kernel
theorem d11_46 : decode k11 46 = .ok (.iload_n 2, 1) := by decide +kernel
theorem d11_47 : decode k11 47 = .ok (.getstatic 63, 3) := by decide +kernel
theorem d11_50 : decode k11 50 = .ok (.ishr, 1) := by decide +kernel
theorem d11_51 : decode k11 51 = .ok (.i2b, 1) := by decide +kernel
theorem d11_52 : decode k11 52 = .ok (.bastore, 1) := by decide +kernel
theorem d11_53 : decode k11 53 = .ok (.return_, 1) := by decide +kernel
abbrev y_11 : MethodName := ⟨"java/lang/StringUTF16", "putChar", "([BII)V"⟩
abbrev r_putc : Room := { frames := 0, cells := 0, slots := 0, locals := 0 }
theorem ef_putc (mt : MethodId) (b : Addr) (x : Int32) (i : Nat) : entryFrame mt #[(.ref b), (.int (own_I i)), (.int x)] 3 = mkF mt 0 #[.val (.ref b), .val (.int (own_I i)), .val (.int x)] [] := by first | (simp [entryFrame, mkF, argsToLocals, Value.category]; done) | rfl
def Q_putc (Z : State) (b : Addr) (x : Int32) (k : ClassId) (zN : Nat) (vs : List Value) (i : Nat) (h0 : Heap) (n0 : Nat) (v : Option Value) (h : Heap) (L : List Loc) : Prop := v = none ∧ Fr n0 L ∧ Keep h0 h [b] ∧ Arv Z h b k .byte (own_I zN) ((vs.set (2 * i) (.int (own_b0 x))).set (2 * i + 1) (.int (own_b1 x))) (.int (0 : Int32))
theorem rm_putc (l : Launch) (Z : State) (a0 : Array Value) (hw : ∀ d ∈ tables_1, d.before a0 Z = true) (ws : List Jvm.Cond) (b : Addr) (x : Int32) (k : ClassId) (zN : Nat) (vs : List Value) (i : Nat) (h0 : Heap) (n0 : Nat) (Z0 : n0 ≤ h0.size) (V : Arv Z h0 b k .byte (own_I zN) vs (.int (0 : Int32))) (hi : i ≤ 15) (hz : 2 * i + 1 < zN) (hz2 : zN ≤ 32) (hl : 2 * i + 1 < vs.length) (gb : n0 ≤ b) (ST : own_St Z) (O : Old Z n0 h0) :
    Met l y_11 k11 3 none ws r_putc #[(.ref b), (.int (own_I i)), (.int x)] Z h0 (Q_putc Z b x k zN vs i h0 n0) := by
  refine MetFree.of_bodySF (plainFor_of_name pn_3) hisR ?_
  intro p e s mt args below meth cd s₁ Bd hml0 hP hK
  obtain ⟨hA, hZ, hh⟩ := hP
  have hx := Bd.exec
  have hby := Bd.bytes
  have hml : cd.maxLocals = 3 := hml0
  have hown : s.vm.findClass "java/lang/StringUTF16" = some mt.cls := findClass_of_methodNamed Bd.named
  have hlk : meth.locks = false := BodyLoose.notSynchronized Bd
  have hrt := Bd.returns
  have X0 : Stand p l e r_putc s mt args below meth cd s₁ [] 0 0 := Stand.of_body Bd
  have e0 : s₁.heap = h0 := by rw [← hh, Bd.state]; rfl
  have N0 := Fr.nil n0
  show Win p e below (Ends s (Q_putc Z b x k zN vs i h0 n0) r_putc.cells r_putc.slots) s₁ (entryFrame mt args 3)
  rw [hA, ef_putc]
  obtain ⟨cs, u, S0, hcs, S1, hu, S2, S3, S4⟩ := id ST
  obtain ⟨T29, X29, e29, st29⟩ := getS2 X0 hx hZ hown (host := "") (Or.inl (ow hw 266 rfl)) Via.refl e0 (S2.ext O.2) (g := (mkF mt 0 #[.val (.ref b), .val (.int (own_I i)), .val (.int x)] [])) rfl (hb hby d11_0)
  refine Win.st ?_ st29
  show Win _ _ _ _ T29 (mkF mt 3 #[.val (.ref b), .val (.int (own_I i)), .val (.int x)] [(.int (1 : Int32))])
  refine Win.st ?_ (fun tq kq => XS.ifYes X29.here hx rfl (pc0 := 3) (pc' := 28) rfl (hb hby d11_3) rfl ((if0 _ _).trans (feq (by decide : ¬ ((1 : Int32) = (0 : Int32)))).2) (by decide) (by decide) kq)
  refine w_iloadN X29 hx hby d11_28 rfl ?_
  refine w_iconst X29 hx hby d11_29 ?_
  refine Win.st ?_ (fun tq kq => XS.ishl X29.here hx rfl (hb hby d11_30) rfl kq)
  show Win _ _ _ _ T29 (mkF mt 31 #[.val (.ref b), .val (.int (own_I i)), .val (.int x)] [(.int ((own_I i) <<< ((1 : Int32) &&& 31)))])
  rw [own_shl1 (n := i) (by omega)]
  show Win _ _ _ _ T29 (mkF mt 31 #[.val (.ref b), .val (.int (own_I i)), .val (.int x)] [(.int (own_I (2 * i)))])
  refine Win.st ?_ (fun tq kq => XS.istoreN X29.here hx rfl (hb hby d11_31) rfl (l' := #[.val (.ref b), .val (.int (own_I (2 * i))), .val (.int x)]) rfl kq)
  refine w_aloadN X29 hx hby d11_32 rfl rfl ?_
  refine w_iloadN X29 hx hby d11_33 rfl ?_
  refine Win.st ?_ (fun tq kq => XS.iinc X29.here hx rfl (hb hby d11_34) rfl (l' := #[.val (.ref b), .val (.int ((own_I (2 * i)) + (1 : Int32))), .val (.int x)]) rfl kq)
  show Win _ _ _ _ T29 (mkF mt 37 #[.val (.ref b), .val (.int ((own_I (2 * i)) + (1 : Int32))), .val (.int x)] [(.int (own_I (2 * i))), (.ref b)])
  rw [own_I_succ (2 * i)]
  show Win _ _ _ _ T29 (mkF mt 37 #[.val (.ref b), .val (.int (own_I (2 * i + 1))), .val (.int x)] [(.int (own_I (2 * i))), (.ref b)])
  refine w_iloadN X29 hx hby d11_37 rfl ?_
  obtain ⟨T30, X30, e30, st30⟩ := getS2 X29 hx hZ hown (host := "") (Or.inl (ow hw 267 rfl)) Via.refl e29 (S3.ext O.2) (g := (mkF mt 38 #[.val (.ref b), .val (.int (own_I (2 * i + 1))), .val (.int x)] [(.int x), (.int (own_I (2 * i))), (.ref b)])) rfl (hb hby d11_38)
  refine Win.st ?_ st30
  show Win _ _ _ _ T30 (mkF mt 41 #[.val (.ref b), .val (.int (own_I (2 * i + 1))), .val (.int x)] [(.int (0 : Int32)), (.int x), (.int (own_I (2 * i))), (.ref b)])
  refine Win.st ?_ (fun tq kq => XS.ishr X30.here hx rfl (hb hby d11_41) rfl kq)
  show Win _ _ _ _ T30 (mkF mt 42 #[.val (.ref b), .val (.int (own_I (2 * i + 1))), .val (.int x)] [(.int (x >>> ((0 : Int32) &&& 31))), (.int (own_I (2 * i))), (.ref b)])
  refine Win.st ?_ (fun tq kq => XS.i2b X30.here hx rfl (hb hby d11_42) rfl kq)
  show Win _ _ _ _ T30 (mkF mt 43 #[.val (.ref b), .val (.int (own_I (2 * i + 1))), .val (.int x)] [(.int ((x >>> ((0 : Int32) &&& 31)).toInt8.toInt32)), (.int (own_I (2 * i))), (.ref b)])
  obtain ⟨T31, h31, L31, X31, N31, e31, kp31, V31, st31⟩ := own_bast (g := (mkF mt 43 #[.val (.ref b), .val (.int (own_I (2 * i + 1))), .val (.int x)] [(.int ((x >>> ((0 : Int32) &&& 31)).toInt8.toInt32)), (.int (own_I (2 * i))), (.ref b)])) X30 hx hZ e30 N0 gb V (j := (own_I (2 * i))) (own_I_nn (by omega)) (own_I_lt (by omega) (by omega)) (i := (2 * i)) (own_I_cl (by omega)) (by omega) rfl rfl (hb hby d11_43)
  rw [own_b8] at V31
  replace V31 : Arv Z h31 b k .byte (own_I zN) ((vs.set (2 * i) (.int (own_b0 x)))) (.int (0 : Int32)) := V31
  have f32_29 := O.keep kp31 (allS gb all0)
  have K34 : Keep h0 h31 [b] := Keep.trans (Keep.refl h0 [b]) kp31 (allS (Or.inl (List.mem_of_getElem? (i := 0) rfl)) all0)
  refine Win.st ?_ st31
  refine w_aloadN X31 hx hby d11_44 rfl rfl ?_
  refine w_iloadN X31 hx hby d11_45 rfl ?_
  refine w_iloadN X31 hx hby d11_46 rfl ?_
  obtain ⟨T35, X35, e35, st35⟩ := getS2 X31 hx hZ hown (host := "") (Or.inl (ow hw 268 rfl)) Via.refl e31 (S4.ext f32_29.2) (g := (mkF mt 47 #[.val (.ref b), .val (.int (own_I (2 * i + 1))), .val (.int x)] [(.int x), (.int (own_I (2 * i + 1))), (.ref b)])) rfl (hb hby d11_47)
  refine Win.st ?_ st35
  show Win _ _ _ _ T35 (mkF mt 50 #[.val (.ref b), .val (.int (own_I (2 * i + 1))), .val (.int x)] [(.int (8 : Int32)), (.int x), (.int (own_I (2 * i + 1))), (.ref b)])
  refine Win.st ?_ (fun tq kq => XS.ishr X35.here hx rfl (hb hby d11_50) rfl kq)
  show Win _ _ _ _ T35 (mkF mt 51 #[.val (.ref b), .val (.int (own_I (2 * i + 1))), .val (.int x)] [(.int (x >>> ((8 : Int32) &&& 31))), (.int (own_I (2 * i + 1))), (.ref b)])
  refine Win.st ?_ (fun tq kq => XS.i2b X35.here hx rfl (hb hby d11_51) rfl kq)
  show Win _ _ _ _ T35 (mkF mt 52 #[.val (.ref b), .val (.int (own_I (2 * i + 1))), .val (.int x)] [(.int ((x >>> ((8 : Int32) &&& 31)).toInt8.toInt32)), (.int (own_I (2 * i + 1))), (.ref b)])
  obtain ⟨T36, h36, L36, X36, N36, e36, kp36, V36, st36⟩ := own_bast (g := (mkF mt 52 #[.val (.ref b), .val (.int (own_I (2 * i + 1))), .val (.int x)] [(.int ((x >>> ((8 : Int32) &&& 31)).toInt8.toInt32)), (.int (own_I (2 * i + 1))), (.ref b)])) X35 hx hZ e35 N31 gb V31 (j := (own_I (2 * i + 1))) (own_I_nn (by omega)) (own_I_lt (by omega) (by omega)) (i := (2 * i + 1)) (own_I_cl (by omega)) (by rw [List.length_set]; exact hl) rfl rfl (hb hby d11_52)
  rw [own_b8] at V36
  replace V36 : Arv Z h36 b k .byte (own_I zN) (((vs.set (2 * i) (.int (own_b0 x))).set (2 * i + 1) (.int (own_b1 x)))) (.int (0 : Int32)) := V36
  have K39 : Keep h0 h36 [b] := Keep.trans K34 kp36 (allS (Or.inl (List.mem_of_getElem? (i := 0) rfl)) all0)
  refine Win.st ?_ st36
  show Win _ _ _ _ T36 (mkF mt 53 #[.val (.ref b), .val (.int (own_I (2 * i + 1))), .val (.int x)] [])
  exact Win.retV X36 hx hlk e36 hrt (hb hby d11_53) (by decide) (by decide) ⟨rfl, N36, K39, V36⟩
abbrev k12 : ByteArray := jdk_52_method_5_code
theorem d12_0 : decode k12 0 = .ok (.getstatic 44, 3) := by decide +kernel
theorem d12_3 : decode k12 3 = .ok (.ifCond .ne 25, 3) := by decide +kernel
theorem d12_28 : decode k12 28 = .ok (.iload_n 1, 1) := by decide +kernel
theorem d12_29 : decode k12 29 = .ok (.iconst 1, 1) := by decide +kernel
theorem d12_30 : decode k12 30 = .ok (.ishl, 1) := by decide +kernel
theorem d12_31 : decode k12 31 = .ok (.istore_n 1, 1) := by decide +kernel
theorem d12_32 : decode k12 32 = .ok (.aload_n 0, 1) := by decide +kernel
theorem d12_33 : decode k12 33 = .ok (.iload_n 1, 1) := by decide +kernel
theorem d12_34 : decode k12 34 = .ok (.iinc 1 1, 3) := by decide +kernel
theorem d12_37 : decode k12 37 = .ok (.baload, 1) := by decide +kernel
theorem d12_38 : decode k12 38 = .ok (.sipush 255, 3) := by decide +kernel
theorem d12_41 : decode k12 41 = .ok (.iand, 1) := by decide +kernel
theorem d12_42 : decode k12 42 = .ok (.getstatic 59, 3) := by decide +kernel
theorem d12_45 : decode k12 45 = .ok (.ishl, 1) := by decide +kernel
theorem d12_46 : decode k12 46 = .ok (.aload_n 0, 1) := by decide +kernel
theorem d12_47 : decode k12 47 = .ok (.iload_n 1, 1) := by decide +kernel
theorem d12_48 : decode k12 48 = .ok (.baload, 1) := by decide +kernel
theorem d12_49 : decode k12 49 = .ok (.sipush 255, 3) := by decide +kernel
theorem d12_52 : decode k12 52 = .ok (.iand, 1) := by decide +kernel
theorem d12_53 : decode k12 53 = .ok (.getstatic 63, 3) := by decide +kernel
theorem d12_56 : decode k12 56 = .ok (.ishl, 1) := by decide +kernel
theorem d12_57 : decode k12 57 = .ok (.ior, 1) := by decide +kernel
theorem d12_58 : decode k12 58 = .ok (.i2c, 1) := by decide +kernel
theorem d12_59 : decode k12 59 = .ok (.ireturn, 1) := by decide +kernel
abbrev y_12 : MethodName := ⟨"java/lang/StringUTF16", "getChar", "([BI)C"⟩
abbrev r_getc : Room := { frames := 0, cells := 0, slots := 0, locals := 0 }
theorem ef_getc (mt : MethodId) (b : Addr) (i : Nat) : entryFrame mt #[(.ref b), (.int (own_I i))] 2 = mkF mt 0 #[.val (.ref b), .val (.int (own_I i))] [] := by first | (simp [entryFrame, mkF, argsToLocals, Value.category]; done) | rfl
def Q_getc (Z : State) (b : Addr) (k : ClassId) (zN : Nat) (vs : List Value) (i : Nat) (x : Int32) (h0 : Heap) (n0 : Nat) (v : Option Value) (h : Heap) (L : List Loc) : Prop := v = some (.int x) ∧ Fr n0 L ∧ h = h0
theorem rm_getc (l : Launch) (Z : State) (a0 : Array Value) (hw : ∀ d ∈ tables_1, d.before a0 Z = true) (ws : List Jvm.Cond) (b : Addr) (k : ClassId) (zN : Nat) (vs : List Value) (i : Nat) (x : Int32) (h0 : Heap) (n0 : Nat) (Z0 : n0 ≤ h0.size) (V : Arv Z h0 b k .byte (own_I zN) vs (.int (0 : Int32))) (hi : i ≤ 15) (hz : 2 * i + 1 < zN) (hz2 : zN ≤ 32) (hv0 : vs.getD (2 * i) (.int (0 : Int32)) = .int (own_b0 x)) (hv1 : vs.getD (2 * i + 1) (.int (0 : Int32)) = .int (own_b1 x)) (hxx : own_C x) (ST : own_St Z) (O : Old Z n0 h0) :
    Met l y_12 k12 2 (some .char) ws r_getc #[(.ref b), (.int (own_I i))] Z h0 (Q_getc Z b k zN vs i x h0 n0) := by
  refine MetFree.of_bodySF (plainFor_of_name pn_3) hisR ?_
  intro p e s mt args below meth cd s₁ Bd hml0 hP hK
  obtain ⟨hA, hZ, hh⟩ := hP
  have hx := Bd.exec
  have hby := Bd.bytes
  have hml : cd.maxLocals = 2 := hml0
  have hown : s.vm.findClass "java/lang/StringUTF16" = some mt.cls := findClass_of_methodNamed Bd.named
  have hlk : meth.locks = false := BodyLoose.notSynchronized Bd
  have hrt := Bd.returns
  have X0 : Stand p l e r_getc s mt args below meth cd s₁ [] 0 0 := Stand.of_body Bd
  have e0 : s₁.heap = h0 := by rw [← hh, Bd.state]; rfl
  have N0 := Fr.nil n0
  show Win p e below (Ends s (Q_getc Z b k zN vs i x h0 n0) r_getc.cells r_getc.slots) s₁ (entryFrame mt args 2)
  rw [hA, ef_getc]
  obtain ⟨cs, u, S0, hcs, S1, hu, S2, S3, S4⟩ := id ST
  obtain ⟨T40, X40, e40, st40⟩ := getS2 X0 hx hZ hown (host := "") (Or.inl (ow hw 266 rfl)) Via.refl e0 (S2.ext O.2) (g := (mkF mt 0 #[.val (.ref b), .val (.int (own_I i))] [])) rfl (hb hby d12_0)
  refine Win.st ?_ st40
  show Win _ _ _ _ T40 (mkF mt 3 #[.val (.ref b), .val (.int (own_I i))] [(.int (1 : Int32))])
  refine Win.st ?_ (fun tq kq => XS.ifYes X40.here hx rfl (pc0 := 3) (pc' := 28) rfl (hb hby d12_3) rfl ((if0 _ _).trans (feq (by decide : ¬ ((1 : Int32) = (0 : Int32)))).2) (by decide) (by decide) kq)
  refine w_iloadN X40 hx hby d12_28 rfl ?_
  refine w_iconst X40 hx hby d12_29 ?_
  refine Win.st ?_ (fun tq kq => XS.ishl X40.here hx rfl (hb hby d12_30) rfl kq)
  show Win _ _ _ _ T40 (mkF mt 31 #[.val (.ref b), .val (.int (own_I i))] [(.int ((own_I i) <<< ((1 : Int32) &&& 31)))])
  rw [own_shl1 (n := i) (by omega)]
  show Win _ _ _ _ T40 (mkF mt 31 #[.val (.ref b), .val (.int (own_I i))] [(.int (own_I (2 * i)))])
  refine Win.st ?_ (fun tq kq => XS.istoreN X40.here hx rfl (hb hby d12_31) rfl (l' := #[.val (.ref b), .val (.int (own_I (2 * i)))]) rfl kq)
  refine w_aloadN X40 hx hby d12_32 rfl rfl ?_
  refine w_iloadN X40 hx hby d12_33 rfl ?_
  refine Win.st ?_ (fun tq kq => XS.iinc X40.here hx rfl (hb hby d12_34) rfl (l' := #[.val (.ref b), .val (.int ((own_I (2 * i)) + (1 : Int32)))]) rfl kq)
  show Win _ _ _ _ T40 (mkF mt 37 #[.val (.ref b), .val (.int ((own_I (2 * i)) + (1 : Int32)))] [(.int (own_I (2 * i))), (.ref b)])
  rw [own_I_succ (2 * i)]
  show Win _ _ _ _ T40 (mkF mt 37 #[.val (.ref b), .val (.int (own_I (2 * i + 1)))] [(.int (own_I (2 * i))), (.ref b)])
  refine Win.st ?_ (own_bald (g := (mkF mt 37 #[.val (.ref b), .val (.int (own_I (2 * i + 1)))] [(.int (own_I (2 * i))), (.ref b)])) X40 hx hZ e40 V (j := (own_I (2 * i))) (v := (.int (own_b0 x))) (own_I_nn (by omega)) (own_I_lt (by omega) (by omega)) (by rw [own_I_cl (by omega)]; exact hv0) rfl rfl (hb hby d12_37))
  refine w_sipush X40 hx hby d12_38 ?_
  refine Win.st ?_ (fun tq kq => XS.iand X40.here hx rfl (hb hby d12_41) rfl kq)
  show Win _ _ _ _ T40 (mkF mt 42 #[.val (.ref b), .val (.int (own_I (2 * i + 1)))] [(.int ((own_b0 x) &&& (255 : Int32)))])
  obtain ⟨T41, X41, e41, st41⟩ := getS2 X40 hx hZ hown (host := "") (Or.inl (ow hw 267 rfl)) Via.refl e40 (S3.ext O.2) (g := (mkF mt 42 #[.val (.ref b), .val (.int (own_I (2 * i + 1)))] [(.int ((own_b0 x) &&& (255 : Int32)))])) rfl (hb hby d12_42)
  refine Win.st ?_ st41
  show Win _ _ _ _ T41 (mkF mt 45 #[.val (.ref b), .val (.int (own_I (2 * i + 1)))] [(.int (0 : Int32)), (.int ((own_b0 x) &&& (255 : Int32)))])
  refine Win.st ?_ (fun tq kq => XS.ishl X41.here hx rfl (hb hby d12_45) rfl kq)
  refine w_aloadN X41 hx hby d12_46 rfl rfl ?_
  refine w_iloadN X41 hx hby d12_47 rfl ?_
  show Win _ _ _ _ T41 (mkF mt 48 #[.val (.ref b), .val (.int (own_I (2 * i + 1)))] [(.int (own_I (2 * i + 1))), (.ref b), (.int (((own_b0 x) &&& (255 : Int32)) <<< ((0 : Int32) &&& 31)))])
  refine Win.st ?_ (own_bald (g := (mkF mt 48 #[.val (.ref b), .val (.int (own_I (2 * i + 1)))] [(.int (own_I (2 * i + 1))), (.ref b), (.int (((own_b0 x) &&& (255 : Int32)) <<< ((0 : Int32) &&& 31)))])) X41 hx hZ e41 V (j := (own_I (2 * i + 1))) (v := (.int (own_b1 x))) (own_I_nn (by omega)) (own_I_lt (by omega) (by omega)) (by rw [own_I_cl (by omega)]; exact hv1) rfl rfl (hb hby d12_48))
  refine w_sipush X41 hx hby d12_49 ?_
  refine Win.st ?_ (fun tq kq => XS.iand X41.here hx rfl (hb hby d12_52) rfl kq)
  show Win _ _ _ _ T41 (mkF mt 53 #[.val (.ref b), .val (.int (own_I (2 * i + 1)))] [(.int ((own_b1 x) &&& (255 : Int32))), (.int (((own_b0 x) &&& (255 : Int32)) <<< ((0 : Int32) &&& 31)))])
  obtain ⟨T42, X42, e42, st42⟩ := getS2 X41 hx hZ hown (host := "") (Or.inl (ow hw 268 rfl)) Via.refl e41 (S4.ext O.2) (g := (mkF mt 53 #[.val (.ref b), .val (.int (own_I (2 * i + 1)))] [(.int ((own_b1 x) &&& (255 : Int32))), (.int (((own_b0 x) &&& (255 : Int32)) <<< ((0 : Int32) &&& 31)))])) rfl (hb hby d12_53)
  refine Win.st ?_ st42
  show Win _ _ _ _ T42 (mkF mt 56 #[.val (.ref b), .val (.int (own_I (2 * i + 1)))] [(.int (8 : Int32)), (.int ((own_b1 x) &&& (255 : Int32))), (.int (((own_b0 x) &&& (255 : Int32)) <<< ((0 : Int32) &&& 31)))])
  refine Win.st ?_ (fun tq kq => XS.ishl X42.here hx rfl (hb hby d12_56) rfl kq)
  show Win _ _ _ _ T42 (mkF mt 57 #[.val (.ref b), .val (.int (own_I (2 * i + 1)))] [(.int (((own_b1 x) &&& (255 : Int32)) <<< ((8 : Int32) &&& 31))), (.int (((own_b0 x) &&& (255 : Int32)) <<< ((0 : Int32) &&& 31)))])
  refine Win.st ?_ (fun tq kq => XS.ior X42.here hx rfl (hb hby d12_57) rfl kq)
  show Win _ _ _ _ T42 (mkF mt 58 #[.val (.ref b), .val (.int (own_I (2 * i + 1)))] [(.int ((((own_b0 x) &&& (255 : Int32)) <<< ((0 : Int32) &&& 31)) ||| (((own_b1 x) &&& (255 : Int32)) <<< ((8 : Int32) &&& 31))))])
  refine Win.st ?_ (fun tq kq => XS.i2c X42.here hx rfl (hb hby d12_58) rfl kq)
  show Win _ _ _ _ T42 (mkF mt 59 #[.val (.ref b), .val (.int (own_I (2 * i + 1)))] [(.int (((((own_b0 x) &&& (255 : Int32)) <<< ((0 : Int32) &&& 31)) ||| (((own_b1 x) &&& (255 : Int32)) <<< ((8 : Int32) &&& 31))).toUInt32.toUInt16.toUInt32.toInt32))])
  exact Win.retN X42 hx hlk e42 (t := .char) (z' := x) hrt (by simp) (hb hby d12_59) (by decide) (by decide) (own_nardec hxx) ⟨rfl, N0, rfl⟩
abbrev k13 : ByteArray := jdk_43_method_2_code
theorem d13_0 : decode k13 0 = .ok (.iload_n 1, 1) := by decide +kernel
theorem d13_1 : decode k13 1 = .ok (.aload_n 0, 1) := by decide +kernel
theorem d13_2 : decode k13 2 = .ok (.arraylength, 1) := by decide +kernel
theorem d13_3 : decode k13 3 = .ok (.invokestatic 9, 3) := by decide +kernel
theorem d13_6 : decode k13 6 = .ok (.aload_n 0, 1) := by decide +kernel
theorem d13_7 : decode k13 7 = .ok (.iload_n 1, 1) := by decide +kernel
theorem d13_8 : decode k13 8 = .ok (.baload, 1) := by decide +kernel
theorem d13_9 : decode k13 9 = .ok (.sipush 255, 3) := by decide +kernel
theorem d13_12 : decode k13 12 = .ok (.iand, 1) := by decide +kernel
theorem d13_13 : decode k13 13 = .ok (.i2c, 1) := by decide +kernel
theorem d13_14 : decode k13 14 = .ok (.ireturn, 1) := by decide +kernel
abbrev y_13 : MethodName := ⟨"java/lang/StringLatin1", "charAt", "([BI)C"⟩
abbrev r_l1ch : Room := { frames := 2, cells := 0, slots := 0, locals := 27 }
theorem pn_4 : plainName "java/lang/StringLatin1" = true := by first | (simp [plainName, overriddenIn]; done) | decide +kernel
theorem ef_l1ch (mt : MethodId) (b : Addr) (i : Nat) : entryFrame mt #[(.ref b), (.int (own_I i))] 2 = mkF mt 0 #[.val (.ref b), .val (.int (own_I i))] [] := by first | (simp [entryFrame, mkF, argsToLocals, Value.category]; done) | rfl
def Q_l1ch (Z : State) (b : Addr) (k : ClassId) (n : Nat) (vs : List Value) (i : Nat) (x : Int32) (h0 : Heap) (n0 : Nat) (v : Option Value) (h : Heap) (L : List Loc) : Prop := v = some (.int x) ∧ Fr n0 L ∧ h = h0
theorem rm_l1ch (l : Launch) (Z : State) (a0 : Array Value) (hw : ∀ d ∈ tables_1, d.before a0 Z = true) (ws : List Jvm.Cond) (b : Addr) (k : ClassId) (n : Nat) (vs : List Value) (i : Nat) (x : Int32) (h0 : Heap) (n0 : Nat) (Z0 : n0 ≤ h0.size) (V : Arv Z h0 b k .byte (own_I n) vs (.int (0 : Int32))) (hi : i < n) (hn : n ≤ 16) (hv : vs.getD i (.int (0 : Int32)) = .int (x.toInt8.toInt32)) (hxx : own_B x) (ST : own_St Z) (O : Old Z n0 h0) :
    Met l y_13 k13 2 (some .char) ws r_l1ch #[(.ref b), (.int (own_I i))] Z h0 (Q_l1ch Z b k n vs i x h0 n0) := by
  refine MetFree.of_bodySF (plainFor_of_name pn_4) hisR ?_
  intro p e s mt args below meth cd s₁ Bd hml0 hP hK
  obtain ⟨hA, hZ, hh⟩ := hP
  have hx := Bd.exec
  have hby := Bd.bytes
  have hml : cd.maxLocals = 2 := hml0
  have hown : s.vm.findClass "java/lang/StringLatin1" = some mt.cls := findClass_of_methodNamed Bd.named
  have hlk : meth.locks = false := BodyLoose.notSynchronized Bd
  have hrt := Bd.returns
  have X0 : Stand p l e r_l1ch s mt args below meth cd s₁ [] 0 0 := Stand.of_body Bd
  have e0 : s₁.heap = h0 := by rw [← hh, Bd.state]; rfl
  have N0 := Fr.nil n0
  show Win p e below (Ends s (Q_l1ch Z b k n vs i x h0 n0) r_l1ch.cells r_l1ch.slots) s₁ (entryFrame mt args 2)
  rw [hA, ef_l1ch]
  obtain ⟨cs, u, S0, hcs, S1, hu, S2, S3, S4⟩ := id ST
  refine w_iloadN X0 hx hby d13_0 rfl ?_
  refine w_aloadN X0 hx hby d13_1 rfl rfl ?_
  refine Win.st ?_ (own_alen (g := (mkF mt 2 #[.val (.ref b), .val (.int (own_I i))] [(.ref b), (.int (own_I i))])) X0 hx hZ e0 V rfl rfl (hb hby d13_2))
  show Win _ _ _ _ s₁ (mkF mt 3 #[.val (.ref b), .val (.int (own_I i))] [(.int (own_I n)), (.int (own_I i))])
  obtain ⟨v43, _, ⟨T43, L43, k43, n43⟩, -, X43, ⟨Lc43, hQ43, l43, rfl, rfl⟩, st43⟩ := Jvm.LawKit.callS X0 hx (y := y_5) hown (mvT hZ (ow hw 222 rfl)) (mvT hZ (ow hw 223 rfl)) (mvT hZ (ow hw 6 rfl)) (mvT hZ (ow hw 224 rfl)) (by decide) (backOf (W := 0) (rm_sci l Z a0 hw [] (own_I i) (own_I n) h0 n0 Z0 (own_I_nn (by omega)) (own_I_lt hi (by omega)) ST O) hZ (ow hw 224 rfl) (ow hw 6 rfl) (by decide) (by decide)) (g := (mkF mt 3 #[.val (.ref b), .val (.int (own_I i))] [(.int (own_I n)), (.int (own_I i))])) rfl (by rw [hml]; rfl) (argsL := [(.int (own_I i)), (.int (own_I n))]) (rest := []) (lenOf pd_3 rfl) rfl (wz rfl) (hb hby d13_3) (fun _ _ => ⟨rfl, e0, (by decide : 0 + 0 ≤ _), (by decide : 0 + 0 ≤ _)⟩)
  replace X43 : Stand p l e _ s mt args below meth cd T43 L43 0 0 := X43
  obtain ⟨rfl, Nq43, eh43⟩ := hQ43
  have N43 := own_fr (L := L43) l43 N0 Nq43
  refine Win.st ?_ st43
  refine w_aloadN X43 hx hby d13_6 rfl rfl ?_
  refine w_iloadN X43 hx hby d13_7 rfl ?_
  show Win _ _ _ _ T43 (mkF mt 8 #[.val (.ref b), .val (.int (own_I i))] [(.int (own_I i)), (.ref b)])
  refine Win.st ?_ (own_bald (g := (mkF mt 8 #[.val (.ref b), .val (.int (own_I i))] [(.int (own_I i)), (.ref b)])) X43 hx hZ eh43 V (j := (own_I i)) (v := (.int (x.toInt8.toInt32))) (own_I_nn (by omega)) (own_I_lt hi (by omega)) (by rw [own_I_cl (by omega)]; exact hv) rfl rfl (hb hby d13_8))
  refine w_sipush X43 hx hby d13_9 ?_
  refine Win.st ?_ (fun tq kq => XS.iand X43.here hx rfl (hb hby d13_12) rfl kq)
  show Win _ _ _ _ T43 (mkF mt 13 #[.val (.ref b), .val (.int (own_I i))] [(.int ((x.toInt8.toInt32) &&& (255 : Int32)))])
  refine Win.st ?_ (fun tq kq => XS.i2c X43.here hx rfl (hb hby d13_13) rfl kq)
  show Win _ _ _ _ T43 (mkF mt 14 #[.val (.ref b), .val (.int (own_I i))] [(.int (((x.toInt8.toInt32) &&& (255 : Int32)).toUInt32.toUInt16.toUInt32.toInt32))])
  exact Win.retN X43 hx hlk eh43 (t := .char) (z' := x) hrt (by simp) (hb hby d13_14) (by decide) (by decide) (own_narb2 hxx) ⟨rfl, N43, rfl⟩
abbrev k14 : ByteArray := jdk_52_method_83_code
theorem d14_0 : decode k14 0 = .ok (.iload_n 1, 1) := by decide +kernel
theorem d14_1 : decode k14 1 = .ok (.aload_n 0, 1) := by decide +kernel
theorem d14_2 : decode k14 2 = .ok (.invokestatic 67, 3) := by decide +kernel
theorem pd_6 : parseMethodDescriptor "(I[B)V" = some ⟨[.int, (.array .byte)], none⟩ := by decide +kernel
theorem d14_5 : decode k14 5 = .ok (.aload_n 0, 1) := by decide +kernel
theorem d14_6 : decode k14 6 = .ok (.iload_n 1, 1) := by decide +kernel
theorem d14_7 : decode k14 7 = .ok (.invokestatic 71, 3) := by decide +kernel
theorem pd_7 : parseMethodDescriptor "([BI)C" = some ⟨[(.array .byte), .int], some .char⟩ := by decide +kernel
theorem d14_10 : decode k14 10 = .ok (.ireturn, 1) := by decide +kernel
abbrev y_14 : MethodName := ⟨"java/lang/StringUTF16", "charAt", "([BI)C"⟩
abbrev r_u16ch : Room := { frames := 3, cells := 0, slots := 0, locals := 40 }
theorem ef_u16ch (mt : MethodId) (b : Addr) (i : Nat) : entryFrame mt #[(.ref b), (.int (own_I i))] 2 = mkF mt 0 #[.val (.ref b), .val (.int (own_I i))] [] := by first | (simp [entryFrame, mkF, argsToLocals, Value.category]; done) | rfl
def Q_u16ch (Z : State) (b : Addr) (k : ClassId) (n : Nat) (vs : List Value) (i : Nat) (x : Int32) (h0 : Heap) (n0 : Nat) (v : Option Value) (h : Heap) (L : List Loc) : Prop := v = some (.int x) ∧ Fr n0 L ∧ h = h0
theorem rm_u16ch (l : Launch) (Z : State) (a0 : Array Value) (hw : ∀ d ∈ tables_1, d.before a0 Z = true) (ws : List Jvm.Cond) (b : Addr) (k : ClassId) (n : Nat) (vs : List Value) (i : Nat) (x : Int32) (h0 : Heap) (n0 : Nat) (Z0 : n0 ≤ h0.size) (V : Arv Z h0 b k .byte (own_I (2 * n)) vs (.int (0 : Int32))) (hi : i < n) (hn : n ≤ 16) (hv0 : vs.getD (2 * i) (.int (0 : Int32)) = .int (own_b0 x)) (hv1 : vs.getD (2 * i + 1) (.int (0 : Int32)) = .int (own_b1 x)) (hxx : own_C x) (ST : own_St Z) (O : Old Z n0 h0) :
    Met l y_14 k14 2 (some .char) ws r_u16ch #[(.ref b), (.int (own_I i))] Z h0 (Q_u16ch Z b k n vs i x h0 n0) := by
  refine MetFree.of_bodySF (plainFor_of_name pn_3) hisR ?_
  intro p e s mt args below meth cd s₁ Bd hml0 hP hK
  obtain ⟨hA, hZ, hh⟩ := hP
  have hx := Bd.exec
  have hby := Bd.bytes
  have hml : cd.maxLocals = 2 := hml0
  have hown : s.vm.findClass "java/lang/StringUTF16" = some mt.cls := findClass_of_methodNamed Bd.named
  have hlk : meth.locks = false := BodyLoose.notSynchronized Bd
  have hrt := Bd.returns
  have X0 : Stand p l e r_u16ch s mt args below meth cd s₁ [] 0 0 := Stand.of_body Bd
  have e0 : s₁.heap = h0 := by rw [← hh, Bd.state]; rfl
  have N0 := Fr.nil n0
  show Win p e below (Ends s (Q_u16ch Z b k n vs i x h0 n0) r_u16ch.cells r_u16ch.slots) s₁ (entryFrame mt args 2)
  rw [hA, ef_u16ch]
  obtain ⟨cs, u, S0, hcs, S1, hu, S2, S3, S4⟩ := id ST
  refine w_iloadN X0 hx hby d14_0 rfl ?_
  refine w_aloadN X0 hx hby d14_1 rfl rfl ?_
  show Win _ _ _ _ s₁ (mkF mt 2 #[.val (.ref b), .val (.int (own_I i))] [(.ref b), (.int (own_I i))])
  obtain ⟨v44, _, ⟨T44, L44, k44, n44⟩, -, X44, ⟨Lc44, hQ44, l44, rfl, rfl⟩, st44⟩ := Jvm.LawKit.callS X0 hx (y := y_7) hown (mvT hZ (ow hw 303 rfl)) (mvT hZ (ow hw 304 rfl)) (mvT hZ (ow hw 232 rfl)) (mvT hZ (ow hw 305 rfl)) (by decide) (backOf (W := 0) (rm_uci l Z a0 hw [] (own_I i) b k (own_I (2 * n)) vs h0 n0 Z0 V (own_I_nn (by omega)) (by rw [own_shr1 hn]; exact own_I_lt hi (by omega)) ST O) hZ (ow hw 305 rfl) (ow hw 232 rfl) (by decide) (by decide)) (g := (mkF mt 2 #[.val (.ref b), .val (.int (own_I i))] [(.ref b), (.int (own_I i))])) rfl (by rw [hml]; rfl) (argsL := [(.int (own_I i)), (.ref b)]) (rest := []) (lenOf pd_6 rfl) rfl (wz rfl) (hb hby d14_2) (fun _ _ => ⟨rfl, e0, (by decide : 0 + 0 ≤ _), (by decide : 0 + 0 ≤ _)⟩)
  replace X44 : Stand p l e _ s mt args below meth cd T44 L44 0 0 := X44
  obtain ⟨rfl, Nq44, eh44⟩ := hQ44
  have N44 := own_fr (L := L44) l44 N0 Nq44
  refine Win.st ?_ st44
  refine w_aloadN X44 hx hby d14_5 rfl rfl ?_
  refine w_iloadN X44 hx hby d14_6 rfl ?_
  show Win _ _ _ _ T44 (mkF mt 7 #[.val (.ref b), .val (.int (own_I i))] [(.int (own_I i)), (.ref b)])
  obtain ⟨v45, _, ⟨T45, L45, k45, n45⟩, -, X45, ⟨Lc45, hQ45, l45, rfl, rfl⟩, st45⟩ := Jvm.LawKit.callS X44 hx (y := y_12) hown (mvT hZ (ow hw 269 rfl)) (mvT hZ (ow hw 270 rfl)) (mvT hZ (ow hw 232 rfl)) (mvT hZ (ow hw 271 rfl)) (by decide) (backOf (W := 0) (rm_getc l Z a0 hw [] b k (2 * n) vs i x h0 n0 Z0 V (by omega) (by omega) (by omega) hv0 hv1 hxx ST O) hZ (ow hw 271 rfl) (ow hw 232 rfl) (by decide) (by decide)) (g := (mkF mt 7 #[.val (.ref b), .val (.int (own_I i))] [(.int (own_I i)), (.ref b)])) rfl (by rw [hml]; rfl) (argsL := [(.ref b), (.int (own_I i))]) (rest := []) (lenOf pd_7 rfl) rfl (wz rfl) (hb hby d14_7) (fun _ _ => ⟨rfl, eh44, (by decide : 0 + 0 ≤ _), (by decide : 0 + 0 ≤ _)⟩)
  replace X45 : Stand p l e _ s mt args below meth cd T45 L45 0 0 := X45
  obtain ⟨rfl, Nq45, eh45⟩ := hQ45
  have N45 := own_fr (L := L45) l45 N44 Nq45
  refine Win.st ?_ st45
  show Win _ _ _ _ T45 (mkF mt 10 #[.val (.ref b), .val (.int (own_I i))] [(.int x)])
  exact Win.retN X45 hx hlk eh45 (t := .char) (z' := x) hrt (by simp) (hb hby d14_10) (by decide) (by decide) (own_narC hxx) ⟨rfl, N45, rfl⟩
abbrev k15 : ByteArray := jdk_42_method_56_code
theorem d15_0 : decode k15 0 = .ok (.aload_n 0, 1) := by decide +kernel
theorem d15_1 : decode k15 1 = .ok (.invokevirtual 492, 3) := by decide +kernel
theorem pd_8 : parseMethodDescriptor "()Z" = some ⟨[], some .boolean⟩ := by decide +kernel
theorem d15_4 : decode k15 4 = .ok (.ifCond .eq 12, 3) := by decide +kernel
theorem d15_7 : decode k15 7 = .ok (.aload_n 0, 1) := by decide +kernel
theorem d15_8 : decode k15 8 = .ok (.getfield 9, 3) := by decide +kernel
theorem d15_11 : decode k15 11 = .ok (.iload_n 1, 1) := by decide +kernel
theorem d15_12 : decode k15 12 = .ok (.invokestatic 495, 3) := by decide +kernel
theorem d15_15 : decode k15 15 = .ok (.ireturn, 1) := by decide +kernel
theorem d15_16 : decode k15 16 = .ok (.aload_n 0, 1) := by decide +kernel
theorem d15_17 : decode k15 17 = .ok (.getfield 9, 3) := by decide +kernel
theorem d15_20 : decode k15 20 = .ok (.iload_n 1, 1) := by decide +kernel
theorem d15_21 : decode k15 21 = .ok (.invokestatic 498, 3) := by decide +kernel
theorem d15_24 : decode k15 24 = .ok (.ireturn, 1) := by decide +kernel
abbrev y_15 : MethodName := ⟨"java/lang/String", "charAt", "(I)C"⟩
abbrev r_sch : Room := { frames := 4, cells := 0, slots := 0, locals := 53 }
theorem ef_sch (mt : MethodId) (a : Addr) (i : Nat) : entryFrame mt #[(.ref a), (.int (own_I i))] 2 = mkF mt 0 #[.val (.ref a), .val (.int (own_I i))] [] := by first | (simp [entryFrame, mkF, argsToLocals, Value.category]; done) | rfl
def Q_sch (Z : State) (a : Addr) (bs : Addr) (ks : ClassId) (zs : Int32) (vs : List Value) (co : Int32) (n : Nat) (f : Nat → Int32) (i : Nat) (h0 : Heap) (n0 : Nat) (v : Option Value) (h : Heap) (L : List Loc) : Prop := v = some (.int (f i)) ∧ Fr n0 L ∧ h = h0
theorem rm_sch (l : Launch) (Z : State) (a0 : Array Value) (hw : ∀ d ∈ tables_1, d.before a0 Z = true) (ws : List Jvm.Cond) (a : Addr) (bs : Addr) (ks : ClassId) (zs : Int32) (vs : List Value) (co : Int32) (n : Nat) (f : Nat → Int32) (i : Nat) (h0 : Heap) (n0 : Nat) (Z0 : n0 ≤ h0.size) (E : Exa Z h0 a "java/lang/String") (Fv : Fld Z h0 a "java/lang/String" "value" "[B" (.ref bs)) (Fc : Fld Z h0 a "java/lang/String" "coder" "B" (.int co)) (V : Arv Z h0 bs ks .byte zs vs (.int (0 : Int32))) (H : own_S co zs n f vs) (hi : i < n) (ST : own_St Z) (O : Old Z n0 h0) :
    Met l y_15 k15 2 (some .char) ws r_sch #[(.ref a), (.int (own_I i))] Z h0 (Q_sch Z a bs ks zs vs co n f i h0 n0) := by
  refine MetFree.of_bodySF (plainFor_of_name pn_0) hisR ?_
  intro p e s mt args below meth cd s₁ Bd hml0 hP hK
  obtain ⟨hA, hZ, hh⟩ := hP
  have hx := Bd.exec
  have hby := Bd.bytes
  have hml : cd.maxLocals = 2 := hml0
  have hown : s.vm.findClass "java/lang/String" = some mt.cls := findClass_of_methodNamed Bd.named
  have hlk : meth.locks = false := BodyLoose.notSynchronized Bd
  have hrt := Bd.returns
  have X0 : Stand p l e r_sch s mt args below meth cd s₁ [] 0 0 := Stand.of_body Bd
  have e0 : s₁.heap = h0 := by rw [← hh, Bd.state]; rfl
  have N0 := Fr.nil n0
  show Win p e below (Ends s (Q_sch Z a bs ks zs vs co n f i h0 n0) r_sch.cells r_sch.slots) s₁ (entryFrame mt args 2)
  rw [hA, ef_sch]
  obtain ⟨cs, u, S0, hcs, S1, hu, S2, S3, S4⟩ := id ST
  rcases H with ⟨hn, ⟨rfl, rfl, HE⟩ | ⟨rfl, rfl, HE⟩⟩
  · show Win _ _ _ _ s₁ (mkF mt 0 #[.val (.ref a), .val (.int (own_I i))] [])
    refine w_aloadN X0 hx hby d15_0 rfl rfl ?_
    show Win _ _ _ _ s₁ (mkF mt 1 #[.val (.ref a), .val (.int (own_I i))] [(.ref a)])
    obtain ⟨cq46, kq46, q46a, q46b, q46c⟩ := isOf hZ e0 E
    obtain ⟨v46, _, ⟨T46, L46, k46, n46⟩, -, X46, ⟨Lc46, hQ46, l46, rfl, rfl⟩, st46⟩ := X0.virtualBack hx (y := y_1) (z := y_1) hown (mvT hZ (ow hw 213 rfl)) (mvT hZ (ow hw 214 rfl)) (notFace_of_selects (args := #[]) (mvT hZ (ow hw 216 rfl))) (mvT hZ (ow hw 216 rfl)) (mvT hZ (ow hw 215 rfl)) (by decide) (backOf (W := 0) (rm_isl l Z a0 hw [] a (0 : Int32) h0 n0 Z0 Fc ST O) hZ (ow hw 217 rfl) (ow hw 6 rfl) (by decide) (by decide)) q46a q46c (g := (mkF mt 1 #[.val (.ref a), .val (.int (own_I i))] [(.ref a)])) rfl (by rw [hml]; rfl) (Steps.refl _) (argsL := []) (rest := []) (lenOf pd_8 rfl) rfl (wz rfl) (hb hby d15_1) (fun _ _ => ⟨rfl, e0, (by decide : 0 + 0 ≤ _), (by decide : 0 + 0 ≤ _)⟩)
    replace X46 : Stand p l e _ s mt args below meth cd T46 L46 0 0 := X46
    obtain ⟨rfl, Nq46, eh46⟩ := hQ46
    have N46 := own_fr (L := L46) l46 N0 Nq46
    rw [show own_isL (0 : Int32) = (1 : Int32) from by decide] at st46
    refine Win.tr ?_ st46
    show Win _ _ _ _ T46 (mkF mt 4 #[.val (.ref a), .val (.int (own_I i))] [(.int (1 : Int32))])
    refine Win.st ?_ (fun tq kq => XS.ifNo X46.here hx rfl (hb hby d15_4) rfl ((if0 _ _).trans (feq (by decide : ¬ ((1 : Int32) = (0 : Int32)))).1) kq)
    refine w_aloadN X46 hx hby d15_7 rfl rfl ?_
    obtain ⟨T47, X47, e47, st47⟩ := getF X46 hx hZ hown (host := "") (Or.inl (ow hw 24 rfl)) Via.refl eh46 Fv (g := (mkF mt 8 #[.val (.ref a), .val (.int (own_I i))] [(.ref a)])) rfl rfl (hb hby d15_8)
    refine Win.st ?_ st47
    refine w_iloadN X47 hx hby d15_11 rfl ?_
    show Win _ _ _ _ T47 (mkF mt 12 #[.val (.ref a), .val (.int (own_I i))] [(.int (own_I i)), (.ref bs)])
    obtain ⟨v48, _, ⟨T48, L48, k48, n48⟩, -, X48, ⟨Lc48, hQ48, l48, rfl, rfl⟩, st48⟩ := Jvm.LawKit.callS X47 hx (y := y_13) hown (mvT hZ (ow hw 218 rfl)) (mvT hZ (ow hw 219 rfl)) (mvT hZ (ow hw 220 rfl)) (mvT hZ (ow hw 221 rfl)) (by decide) (backOf (W := 0) (rm_l1ch l Z a0 hw [] bs ks n vs i (f i) h0 n0 Z0 V hi hn (HE i hi).2 (HE i hi).1 ST O) hZ (ow hw 221 rfl) (ow hw 220 rfl) (by decide) (by decide)) (g := (mkF mt 12 #[.val (.ref a), .val (.int (own_I i))] [(.int (own_I i)), (.ref bs)])) rfl (by rw [hml]; rfl) (argsL := [(.ref bs), (.int (own_I i))]) (rest := []) (lenOf pd_7 rfl) rfl (wz rfl) (hb hby d15_12) (fun _ _ => ⟨rfl, e47, (by decide : 0 + 0 ≤ _), (by decide : 0 + 0 ≤ _)⟩)
    replace X48 : Stand p l e _ s mt args below meth cd T48 L48 0 0 := X48
    obtain ⟨rfl, Nq48, eh48⟩ := hQ48
    have N48 := own_fr (L := L48) l48 N46 Nq48
    refine Win.st ?_ st48
    show Win _ _ _ _ T48 (mkF mt 15 #[.val (.ref a), .val (.int (own_I i))] [(.int (f i))])
    exact Win.retN X48 hx hlk eh48 (t := .char) (z' := (f i)) hrt (by simp) (hb hby d15_15) (by decide) (by decide) (own_narC (own_C_of (HE i hi).1)) ⟨rfl, N48, rfl⟩
  · show Win _ _ _ _ s₁ (mkF mt 0 #[.val (.ref a), .val (.int (own_I i))] [])
    refine w_aloadN X0 hx hby d15_0 rfl rfl ?_
    show Win _ _ _ _ s₁ (mkF mt 1 #[.val (.ref a), .val (.int (own_I i))] [(.ref a)])
    obtain ⟨cq49, kq49, q49a, q49b, q49c⟩ := isOf hZ e0 E
    obtain ⟨v49, _, ⟨T49, L49, k49, n49⟩, -, X49, ⟨Lc49, hQ49, l49, rfl, rfl⟩, st49⟩ := X0.virtualBack hx (y := y_1) (z := y_1) hown (mvT hZ (ow hw 213 rfl)) (mvT hZ (ow hw 214 rfl)) (notFace_of_selects (args := #[]) (mvT hZ (ow hw 216 rfl))) (mvT hZ (ow hw 216 rfl)) (mvT hZ (ow hw 215 rfl)) (by decide) (backOf (W := 0) (rm_isl l Z a0 hw [] a (1 : Int32) h0 n0 Z0 Fc ST O) hZ (ow hw 217 rfl) (ow hw 6 rfl) (by decide) (by decide)) q49a q49c (g := (mkF mt 1 #[.val (.ref a), .val (.int (own_I i))] [(.ref a)])) rfl (by rw [hml]; rfl) (Steps.refl _) (argsL := []) (rest := []) (lenOf pd_8 rfl) rfl (wz rfl) (hb hby d15_1) (fun _ _ => ⟨rfl, e0, (by decide : 0 + 0 ≤ _), (by decide : 0 + 0 ≤ _)⟩)
    replace X49 : Stand p l e _ s mt args below meth cd T49 L49 0 0 := X49
    obtain ⟨rfl, Nq49, eh49⟩ := hQ49
    have N49 := own_fr (L := L49) l49 N0 Nq49
    rw [show own_isL (1 : Int32) = (0 : Int32) from by decide] at st49
    refine Win.tr ?_ st49
    show Win _ _ _ _ T49 (mkF mt 4 #[.val (.ref a), .val (.int (own_I i))] [(.int (0 : Int32))])
    refine Win.st ?_ (fun tq kq => XS.ifYes X49.here hx rfl (pc0 := 4) (pc' := 16) rfl (hb hby d15_4) rfl ((if0 _ _).trans (teq (rfl : (0 : Int32) = (0 : Int32))).1) (by decide) (by decide) kq)
    refine w_aloadN X49 hx hby d15_16 rfl rfl ?_
    obtain ⟨T50, X50, e50, st50⟩ := getF X49 hx hZ hown (host := "") (Or.inl (ow hw 24 rfl)) Via.refl eh49 Fv (g := (mkF mt 17 #[.val (.ref a), .val (.int (own_I i))] [(.ref a)])) rfl rfl (hb hby d15_17)
    refine Win.st ?_ st50
    refine w_iloadN X50 hx hby d15_20 rfl ?_
    show Win _ _ _ _ T50 (mkF mt 21 #[.val (.ref a), .val (.int (own_I i))] [(.int (own_I i)), (.ref bs)])
    obtain ⟨v51, _, ⟨T51, L51, k51, n51⟩, -, X51, ⟨Lc51, hQ51, l51, rfl, rfl⟩, st51⟩ := Jvm.LawKit.callS X50 hx (y := y_14) hown (mvT hZ (ow hw 300 rfl)) (mvT hZ (ow hw 301 rfl)) (mvT hZ (ow hw 232 rfl)) (mvT hZ (ow hw 302 rfl)) (by decide) (backOf (W := 0) (rm_u16ch l Z a0 hw [] bs ks n vs i (f i) h0 n0 Z0 V hi hn (HE i hi).2.1 (HE i hi).2.2 (HE i hi).1 ST O) hZ (ow hw 302 rfl) (ow hw 232 rfl) (by decide) (by decide)) (g := (mkF mt 21 #[.val (.ref a), .val (.int (own_I i))] [(.int (own_I i)), (.ref bs)])) rfl (by rw [hml]; rfl) (argsL := [(.ref bs), (.int (own_I i))]) (rest := []) (lenOf pd_7 rfl) rfl (wz rfl) (hb hby d15_21) (fun _ _ => ⟨rfl, e50, (by decide : 0 + 0 ≤ _), (by decide : 0 + 0 ≤ _)⟩)
    replace X51 : Stand p l e _ s mt args below meth cd T51 L51 0 0 := X51
    obtain ⟨rfl, Nq51, eh51⟩ := hQ51
    have N51 := own_fr (L := L51) l51 N49 Nq51
    refine Win.st ?_ st51
    show Win _ _ _ _ T51 (mkF mt 24 #[.val (.ref a), .val (.int (own_I i))] [(.int (f i))])
    exact Win.retN X51 hx hlk eh51 (t := .char) (z' := (f i)) hrt (by simp) (hb hby d15_24) (by decide) (by decide) (own_narC (HE i hi).1) ⟨rfl, N51, rfl⟩
abbrev k16 : ByteArray := jdk_52_method_3_code
theorem d16_0 : decode k16 0 = .ok (.iload_n 0, 1) := by decide +kernel
theorem d16_1 : decode k16 1 = .ok (.ifCond .ge 11, 3) := by decide +kernel
theorem d16_12 : decode k16 12 = .ok (.iload_n 0, 1) := by decide +kernel
theorem d16_13 : decode k16 13 = .ok (.ldc 20, 2) := by decide +kernel
theorem d16_15 : decode k16 15 = .ok (.if_icmp .lt 40, 3) := by decide +kernel
theorem d16_55 : decode k16 55 = .ok (.iload_n 0, 1) := by decide +kernel
theorem d16_56 : decode k16 56 = .ok (.iconst 1, 1) := by decide +kernel
theorem d16_57 : decode k16 57 = .ok (.ishl, 1) := by decide +kernel
theorem d16_58 : decode k16 58 = .ok (.ireturn, 1) := by decide +kernel
abbrev y_16 : MethodName := ⟨"java/lang/StringUTF16", "newBytesLength", "(I)I"⟩
abbrev r_nbl : Room := { frames := 0, cells := 0, slots := 0, locals := 0 }
theorem ef_nbl (mt : MethodId) (x : Int32) : entryFrame mt #[(.int x)] 1 = mkF mt 0 #[.val (.int x)] [] := by first | (simp [entryFrame, mkF, argsToLocals, Value.category]; done) | rfl
def Q_nbl (Z : State) (x : Int32) (h0 : Heap) (n0 : Nat) (v : Option Value) (h : Heap) (L : List Loc) : Prop := v = some (.int (x <<< ((1 : Int32) &&& 31))) ∧ Fr n0 L ∧ h = h0
theorem rm_nbl (l : Launch) (Z : State) (a0 : Array Value) (hw : ∀ d ∈ tables_1, d.before a0 Z = true) (ws : List Jvm.Cond) (x : Int32) (h0 : Heap) (n0 : Nat) (Z0 : n0 ≤ h0.size) (h1 : ¬ x < (0 : Int32)) (h2 : x < (1073741823 : Int32)) :
    Met l y_16 k16 1 (some .int) ws r_nbl #[(.int x)] Z h0 (Q_nbl Z x h0 n0) := by
  refine MetFree.of_bodySF (plainFor_of_name pn_3) hisR ?_
  intro p e s mt args below meth cd s₁ Bd hml0 hP hK
  obtain ⟨hA, hZ, hh⟩ := hP
  have hx := Bd.exec
  have hby := Bd.bytes
  have hml : cd.maxLocals = 1 := hml0
  have hown : s.vm.findClass "java/lang/StringUTF16" = some mt.cls := findClass_of_methodNamed Bd.named
  have hlk : meth.locks = false := BodyLoose.notSynchronized Bd
  have hrt := Bd.returns
  have X0 : Stand p l e r_nbl s mt args below meth cd s₁ [] 0 0 := Stand.of_body Bd
  have e0 : s₁.heap = h0 := by rw [← hh, Bd.state]; rfl
  have N0 := Fr.nil n0
  show Win p e below (Ends s (Q_nbl Z x h0 n0) r_nbl.cells r_nbl.slots) s₁ (entryFrame mt args 1)
  rw [hA, ef_nbl]
  refine w_iloadN X0 hx hby d16_0 rfl ?_
  refine Win.st ?_ (fun tq kq => XS.ifYes X0.here hx rfl (pc0 := 1) (pc' := 12) rfl (hb hby d16_1) rfl ((if0 _ _).trans (flt h1).2.1) (by decide) (by decide) kq)
  refine w_iloadN X0 hx hby d16_12 rfl ?_
  show Win _ _ _ _ s₁ (mkF mt 13 #[.val (.int x)] [(.int x)])
  refine Win.st ?_ (X0.ldcInt hx hown (mvT hZ (ow hw 262 rfl)) (g := (mkF mt 13 #[.val (.int x)] [(.int x)])) rfl (hb hby d16_13))
  show Win _ _ _ _ s₁ (mkF mt 15 #[.val (.int x)] [(.int (1073741823 : Int32)), (.int x)])
  refine Win.st ?_ (fun tq kq => XS.icmpYes X0.here hx rfl (pc0 := 15) (pc' := 55) rfl (hb hby d16_15) rfl (tlt h2).1 (by decide) (by decide) kq)
  refine w_iloadN X0 hx hby d16_55 rfl ?_
  refine w_iconst X0 hx hby d16_56 ?_
  refine Win.st ?_ (fun tq kq => XS.ishl X0.here hx rfl (hb hby d16_57) rfl kq)
  show Win _ _ _ _ s₁ (mkF mt 58 #[.val (.int x)] [(.int (x <<< ((1 : Int32) &&& 31)))])
  exact Win.ret X0 hx hlk e0 hrt rfl (Or.inl ⟨rfl, Or.inl rfl, _, rfl⟩) (hb hby d16_58) (by decide) (by decide) ⟨rfl, N0, rfl⟩
abbrev k17 : ByteArray := jdk_52_method_2_code
theorem d17_0 : decode k17 0 = .ok (.iload_n 0, 1) := by decide +kernel
theorem d17_1 : decode k17 1 = .ok (.invokestatic 11, 3) := by decide +kernel
theorem pd_9 : parseMethodDescriptor "(I)I" = some ⟨[.int], some .int⟩ := by decide +kernel
theorem d17_4 : decode k17 4 = .ok (.newarray .byte, 2) := by decide +kernel
theorem d17_6 : decode k17 6 = .ok (.areturn, 1) := by decide +kernel
abbrev y_17 : MethodName := ⟨"java/lang/StringUTF16", "newBytesFor", "(I)[B"⟩
abbrev r_nbf_2 : Room := { frames := 1, cells := 1, slots := 4, locals := 12 }
theorem ef_nbf_2 (mt : MethodId)  : entryFrame mt #[(.int (2 : Int32))] 1 = mkF mt 0 #[.val (.int (2 : Int32))] [] := by first | (simp [entryFrame, mkF, argsToLocals, Value.category]; done) | rfl
def Q_nbf_2 (Z : State)  (h0 : Heap) (n0 : Nat) (v : Option Value) (h : Heap) (L : List Loc) : Prop := ∃ r : Addr, v = some (.ref r) ∧ Fr n0 L ∧ Keep h0 h [] ∧ n0 ≤ r ∧ h0.size ≤ r ∧ ∃ k : ClassId, Arv Z h r k .byte (4 : Int32) [(.int (0 : Int32)), (.int (0 : Int32)), (.int (0 : Int32)), (.int (0 : Int32))] (.int (0 : Int32)) ∧ Exa Z h r "[B"
theorem rm_nbf_2 (l : Launch) (Z : State) (a0 : Array Value) (hw : ∀ d ∈ tables_1, d.before a0 Z = true) (ws : List Jvm.Cond)  (h0 : Heap) (n0 : Nat) (Z0 : n0 ≤ h0.size) :
    Met l y_17 k17 1 (some (.array .byte)) ws r_nbf_2 #[(.int (2 : Int32))] Z h0 (Q_nbf_2 Z  h0 n0) := by
  refine MetFree.of_bodySF (plainFor_of_name pn_3) hisR ?_
  intro p e s mt args below meth cd s₁ Bd hml0 hP hK
  obtain ⟨hA, hZ, hh⟩ := hP
  have hx := Bd.exec
  have hby := Bd.bytes
  have hml : cd.maxLocals = 1 := hml0
  have hown : s.vm.findClass "java/lang/StringUTF16" = some mt.cls := findClass_of_methodNamed Bd.named
  have hlk : meth.locks = false := BodyLoose.notSynchronized Bd
  have hrt := Bd.returns
  have X0 : Stand p l e r_nbf_2 s mt args below meth cd s₁ [] 0 0 := Stand.of_body Bd
  have e0 : s₁.heap = h0 := by rw [← hh, Bd.state]; rfl
  have N0 := Fr.nil n0
  show Win p e below (Ends s (Q_nbf_2 Z  h0 n0) r_nbf_2.cells r_nbf_2.slots) s₁ (entryFrame mt args 1)
  rw [hA, ef_nbf_2]
  refine w_iloadN X0 hx hby d17_0 rfl ?_
  show Win _ _ _ _ s₁ (mkF mt 1 #[.val (.int (2 : Int32))] [(.int (2 : Int32))])
  obtain ⟨v52, _, ⟨T52, L52, k52, n52⟩, -, X52, ⟨Lc52, hQ52, l52, rfl, rfl⟩, st52⟩ := Jvm.LawKit.callS X0 hx (y := y_16) hown (mvT hZ (ow hw 259 rfl)) (mvT hZ (ow hw 260 rfl)) (mvT hZ (ow hw 232 rfl)) (mvT hZ (ow hw 261 rfl)) (by decide) (backOf (W := 0) (rm_nbl l Z a0 hw [] (2 : Int32) h0 n0 Z0 (by decide) (by decide)) hZ (ow hw 261 rfl) (ow hw 232 rfl) (by decide) (by decide)) (g := (mkF mt 1 #[.val (.int (2 : Int32))] [(.int (2 : Int32))])) rfl (by rw [hml]; rfl) (argsL := [(.int (2 : Int32))]) (rest := []) (lenOf pd_9 rfl) rfl (wz rfl) (hb hby d17_1) (fun _ _ => ⟨rfl, e0, (by decide : 0 + 0 ≤ _), (by decide : 0 + 0 ≤ _)⟩)
  replace X52 : Stand p l e _ s mt args below meth cd T52 L52 0 0 := X52
  obtain ⟨rfl, Nq52, eh52⟩ := hQ52
  have N52 := own_fr (L := L52) l52 N0 Nq52
  rw [show ((2 : Int32) <<< ((1 : Int32) &&& 31)) = (4 : Int32) from by decide] at st52
  refine Win.st ?_ st52
  show Win _ _ _ _ T52 (mkF mt 4 #[.val (.int (2 : Int32))] [(.int (4 : Int32))])
  obtain ⟨T53, h53, k53, X53, e53, E53, A53, Ex53, st53⟩ := newPE X52 hx hZ (ow hw 19 rfl) eh52 (g := (mkF mt 4 #[.val (.int (2 : Int32))] [(.int (4 : Int32))])) rfl (hb hby d17_4) rfl (by decide) (cap := 4) (by decide) (by decide) (by decide) (by decide) (ad := "[B") (by decide)
  obtain ⟨b53, gq53⟩ : ∃ z, z = h0.size := ⟨_, rfl⟩
  rw [← gq53] at A53 st53 Ex53
  have g54 : n0 ≤ b53 := own_newle Z0 gq53
  have z55 : h0.size ≤ b53 := own_newle (Keep.refl h0 []).1 gq53
  have ke53 := own_kext E53
  replace X53 : Stand p l e _ s mt args below meth cd T53 _ 1 4 := X53
  have K58 : Keep h0 h53 [] := Keep.trans (Keep.refl h0 []) ke53 all0
  have V53 : Arv Z h53 b53 k53 .byte (4 : Int32) [(.int (0 : Int32)), (.int (0 : Int32)), (.int (0 : Int32)), (.int (0 : Int32))] (.int (0 : Int32)) := (Arv.new A53 (by decide)).pad (pad_rep [] (.int (0 : Int32)) 4)
  refine Win.st ?_ st53
  show Win _ _ _ _ T53 (mkF mt 6 #[.val (.int (2 : Int32))] [(.ref b53)])
  exact Win.ret X53 hx hlk e53 hrt rfl (Or.inr (Or.inr (Or.inr (Or.inr ⟨rfl, rfl, rfl⟩)))) (hb hby d17_6) (by decide) (by decide) ⟨_, rfl, N52, K58, g54, z55, _, V53, Ex53⟩
abbrev r_nbf_3 : Room := { frames := 1, cells := 1, slots := 6, locals := 12 }
theorem ef_nbf_3 (mt : MethodId)  : entryFrame mt #[(.int (3 : Int32))] 1 = mkF mt 0 #[.val (.int (3 : Int32))] [] := by first | (simp [entryFrame, mkF, argsToLocals, Value.category]; done) | rfl
def Q_nbf_3 (Z : State)  (h0 : Heap) (n0 : Nat) (v : Option Value) (h : Heap) (L : List Loc) : Prop := ∃ r : Addr, v = some (.ref r) ∧ Fr n0 L ∧ Keep h0 h [] ∧ n0 ≤ r ∧ h0.size ≤ r ∧ ∃ k : ClassId, Arv Z h r k .byte (6 : Int32) [(.int (0 : Int32)), (.int (0 : Int32)), (.int (0 : Int32)), (.int (0 : Int32)), (.int (0 : Int32)), (.int (0 : Int32))] (.int (0 : Int32)) ∧ Exa Z h r "[B"
theorem rm_nbf_3 (l : Launch) (Z : State) (a0 : Array Value) (hw : ∀ d ∈ tables_1, d.before a0 Z = true) (ws : List Jvm.Cond)  (h0 : Heap) (n0 : Nat) (Z0 : n0 ≤ h0.size) :
    Met l y_17 k17 1 (some (.array .byte)) ws r_nbf_3 #[(.int (3 : Int32))] Z h0 (Q_nbf_3 Z  h0 n0) := by
  refine MetFree.of_bodySF (plainFor_of_name pn_3) hisR ?_
  intro p e s mt args below meth cd s₁ Bd hml0 hP hK
  obtain ⟨hA, hZ, hh⟩ := hP
  have hx := Bd.exec
  have hby := Bd.bytes
  have hml : cd.maxLocals = 1 := hml0
  have hown : s.vm.findClass "java/lang/StringUTF16" = some mt.cls := findClass_of_methodNamed Bd.named
  have hlk : meth.locks = false := BodyLoose.notSynchronized Bd
  have hrt := Bd.returns
  have X0 : Stand p l e r_nbf_3 s mt args below meth cd s₁ [] 0 0 := Stand.of_body Bd
  have e0 : s₁.heap = h0 := by rw [← hh, Bd.state]; rfl
  have N0 := Fr.nil n0
  show Win p e below (Ends s (Q_nbf_3 Z  h0 n0) r_nbf_3.cells r_nbf_3.slots) s₁ (entryFrame mt args 1)
  rw [hA, ef_nbf_3]
  refine w_iloadN X0 hx hby d17_0 rfl ?_
  show Win _ _ _ _ s₁ (mkF mt 1 #[.val (.int (3 : Int32))] [(.int (3 : Int32))])
  obtain ⟨v59, _, ⟨T59, L59, k59, n59⟩, -, X59, ⟨Lc59, hQ59, l59, rfl, rfl⟩, st59⟩ := Jvm.LawKit.callS X0 hx (y := y_16) hown (mvT hZ (ow hw 259 rfl)) (mvT hZ (ow hw 260 rfl)) (mvT hZ (ow hw 232 rfl)) (mvT hZ (ow hw 261 rfl)) (by decide) (backOf (W := 0) (rm_nbl l Z a0 hw [] (3 : Int32) h0 n0 Z0 (by decide) (by decide)) hZ (ow hw 261 rfl) (ow hw 232 rfl) (by decide) (by decide)) (g := (mkF mt 1 #[.val (.int (3 : Int32))] [(.int (3 : Int32))])) rfl (by rw [hml]; rfl) (argsL := [(.int (3 : Int32))]) (rest := []) (lenOf pd_9 rfl) rfl (wz rfl) (hb hby d17_1) (fun _ _ => ⟨rfl, e0, (by decide : 0 + 0 ≤ _), (by decide : 0 + 0 ≤ _)⟩)
  replace X59 : Stand p l e _ s mt args below meth cd T59 L59 0 0 := X59
  obtain ⟨rfl, Nq59, eh59⟩ := hQ59
  have N59 := own_fr (L := L59) l59 N0 Nq59
  rw [show ((3 : Int32) <<< ((1 : Int32) &&& 31)) = (6 : Int32) from by decide] at st59
  refine Win.st ?_ st59
  show Win _ _ _ _ T59 (mkF mt 4 #[.val (.int (3 : Int32))] [(.int (6 : Int32))])
  obtain ⟨T60, h60, k60, X60, e60, E60, A60, Ex60, st60⟩ := newPE X59 hx hZ (ow hw 19 rfl) eh59 (g := (mkF mt 4 #[.val (.int (3 : Int32))] [(.int (6 : Int32))])) rfl (hb hby d17_4) rfl (by decide) (cap := 6) (by decide) (by decide) (by decide) (by decide) (ad := "[B") (by decide)
  obtain ⟨b60, gq60⟩ : ∃ z, z = h0.size := ⟨_, rfl⟩
  rw [← gq60] at A60 st60 Ex60
  have g61 : n0 ≤ b60 := own_newle Z0 gq60
  have z62 : h0.size ≤ b60 := own_newle (Keep.refl h0 []).1 gq60
  have ke60 := own_kext E60
  replace X60 : Stand p l e _ s mt args below meth cd T60 _ 1 6 := X60
  have K65 : Keep h0 h60 [] := Keep.trans (Keep.refl h0 []) ke60 all0
  have V60 : Arv Z h60 b60 k60 .byte (6 : Int32) [(.int (0 : Int32)), (.int (0 : Int32)), (.int (0 : Int32)), (.int (0 : Int32)), (.int (0 : Int32)), (.int (0 : Int32))] (.int (0 : Int32)) := (Arv.new A60 (by decide)).pad (pad_rep [] (.int (0 : Int32)) 6)
  refine Win.st ?_ st60
  show Win _ _ _ _ T60 (mkF mt 6 #[.val (.int (3 : Int32))] [(.ref b60)])
  exact Win.ret X60 hx hlk e60 hrt rfl (Or.inr (Or.inr (Or.inr (Or.inr ⟨rfl, rfl, rfl⟩)))) (hb hby d17_6) (by decide) (by decide) ⟨_, rfl, N59, K65, g61, z62, _, V60, Ex60⟩
abbrev r_nbf_16 : Room := { frames := 1, cells := 1, slots := 32, locals := 12 }
theorem ef_nbf_16 (mt : MethodId)  : entryFrame mt #[(.int (16 : Int32))] 1 = mkF mt 0 #[.val (.int (16 : Int32))] [] := by first | (simp [entryFrame, mkF, argsToLocals, Value.category]; done) | rfl
def Q_nbf_16 (Z : State)  (h0 : Heap) (n0 : Nat) (v : Option Value) (h : Heap) (L : List Loc) : Prop := ∃ r : Addr, v = some (.ref r) ∧ Fr n0 L ∧ Keep h0 h [] ∧ n0 ≤ r ∧ h0.size ≤ r ∧ ∃ k : ClassId, Arv Z h r k .byte (32 : Int32) [(.int (0 : Int32)), (.int (0 : Int32)), (.int (0 : Int32)), (.int (0 : Int32)), (.int (0 : Int32)), (.int (0 : Int32)), (.int (0 : Int32)), (.int (0 : Int32)), (.int (0 : Int32)), (.int (0 : Int32)), (.int (0 : Int32)), (.int (0 : Int32)), (.int (0 : Int32)), (.int (0 : Int32)), (.int (0 : Int32)), (.int (0 : Int32)), (.int (0 : Int32)), (.int (0 : Int32)), (.int (0 : Int32)), (.int (0 : Int32)), (.int (0 : Int32)), (.int (0 : Int32)), (.int (0 : Int32)), (.int (0 : Int32)), (.int (0 : Int32)), (.int (0 : Int32)), (.int (0 : Int32)), (.int (0 : Int32)), (.int (0 : Int32)), (.int (0 : Int32)), (.int (0 : Int32)), (.int (0 : Int32))] (.int (0 : Int32)) ∧ Exa Z h r "[B"
theorem rm_nbf_16 (l : Launch) (Z : State) (a0 : Array Value) (hw : ∀ d ∈ tables_1, d.before a0 Z = true) (ws : List Jvm.Cond)  (h0 : Heap) (n0 : Nat) (Z0 : n0 ≤ h0.size) :
    Met l y_17 k17 1 (some (.array .byte)) ws r_nbf_16 #[(.int (16 : Int32))] Z h0 (Q_nbf_16 Z  h0 n0) := by
  refine MetFree.of_bodySF (plainFor_of_name pn_3) hisR ?_
  intro p e s mt args below meth cd s₁ Bd hml0 hP hK
  obtain ⟨hA, hZ, hh⟩ := hP
  have hx := Bd.exec
  have hby := Bd.bytes
  have hml : cd.maxLocals = 1 := hml0
  have hown : s.vm.findClass "java/lang/StringUTF16" = some mt.cls := findClass_of_methodNamed Bd.named
  have hlk : meth.locks = false := BodyLoose.notSynchronized Bd
  have hrt := Bd.returns
  have X0 : Stand p l e r_nbf_16 s mt args below meth cd s₁ [] 0 0 := Stand.of_body Bd
  have e0 : s₁.heap = h0 := by rw [← hh, Bd.state]; rfl
  have N0 := Fr.nil n0
  show Win p e below (Ends s (Q_nbf_16 Z  h0 n0) r_nbf_16.cells r_nbf_16.slots) s₁ (entryFrame mt args 1)
  rw [hA, ef_nbf_16]
  refine w_iloadN X0 hx hby d17_0 rfl ?_
  show Win _ _ _ _ s₁ (mkF mt 1 #[.val (.int (16 : Int32))] [(.int (16 : Int32))])
  obtain ⟨v66, _, ⟨T66, L66, k66, n66⟩, -, X66, ⟨Lc66, hQ66, l66, rfl, rfl⟩, st66⟩ := Jvm.LawKit.callS X0 hx (y := y_16) hown (mvT hZ (ow hw 259 rfl)) (mvT hZ (ow hw 260 rfl)) (mvT hZ (ow hw 232 rfl)) (mvT hZ (ow hw 261 rfl)) (by decide) (backOf (W := 0) (rm_nbl l Z a0 hw [] (16 : Int32) h0 n0 Z0 (by decide) (by decide)) hZ (ow hw 261 rfl) (ow hw 232 rfl) (by decide) (by decide)) (g := (mkF mt 1 #[.val (.int (16 : Int32))] [(.int (16 : Int32))])) rfl (by rw [hml]; rfl) (argsL := [(.int (16 : Int32))]) (rest := []) (lenOf pd_9 rfl) rfl (wz rfl) (hb hby d17_1) (fun _ _ => ⟨rfl, e0, (by decide : 0 + 0 ≤ _), (by decide : 0 + 0 ≤ _)⟩)
  replace X66 : Stand p l e _ s mt args below meth cd T66 L66 0 0 := X66
  obtain ⟨rfl, Nq66, eh66⟩ := hQ66
  have N66 := own_fr (L := L66) l66 N0 Nq66
  rw [show ((16 : Int32) <<< ((1 : Int32) &&& 31)) = (32 : Int32) from by decide] at st66
  refine Win.st ?_ st66
  show Win _ _ _ _ T66 (mkF mt 4 #[.val (.int (16 : Int32))] [(.int (32 : Int32))])
  obtain ⟨T67, h67, k67, X67, e67, E67, A67, Ex67, st67⟩ := newPE X66 hx hZ (ow hw 19 rfl) eh66 (g := (mkF mt 4 #[.val (.int (16 : Int32))] [(.int (32 : Int32))])) rfl (hb hby d17_4) rfl (by decide) (cap := 32) (by decide) (by decide) (by decide) (by decide) (ad := "[B") (by decide)
  obtain ⟨b67, gq67⟩ : ∃ z, z = h0.size := ⟨_, rfl⟩
  rw [← gq67] at A67 st67 Ex67
  have g68 : n0 ≤ b67 := own_newle Z0 gq67
  have z69 : h0.size ≤ b67 := own_newle (Keep.refl h0 []).1 gq67
  have ke67 := own_kext E67
  replace X67 : Stand p l e _ s mt args below meth cd T67 _ 1 32 := X67
  have K72 : Keep h0 h67 [] := Keep.trans (Keep.refl h0 []) ke67 all0
  have V67 : Arv Z h67 b67 k67 .byte (32 : Int32) [(.int (0 : Int32)), (.int (0 : Int32)), (.int (0 : Int32)), (.int (0 : Int32)), (.int (0 : Int32)), (.int (0 : Int32)), (.int (0 : Int32)), (.int (0 : Int32)), (.int (0 : Int32)), (.int (0 : Int32)), (.int (0 : Int32)), (.int (0 : Int32)), (.int (0 : Int32)), (.int (0 : Int32)), (.int (0 : Int32)), (.int (0 : Int32)), (.int (0 : Int32)), (.int (0 : Int32)), (.int (0 : Int32)), (.int (0 : Int32)), (.int (0 : Int32)), (.int (0 : Int32)), (.int (0 : Int32)), (.int (0 : Int32)), (.int (0 : Int32)), (.int (0 : Int32)), (.int (0 : Int32)), (.int (0 : Int32)), (.int (0 : Int32)), (.int (0 : Int32)), (.int (0 : Int32)), (.int (0 : Int32))] (.int (0 : Int32)) := (Arv.new A67 (by decide)).pad (pad_rep [] (.int (0 : Int32)) 32)
  refine Win.st ?_ st67
  show Win _ _ _ _ T67 (mkF mt 6 #[.val (.int (16 : Int32))] [(.ref b67)])
  exact Win.ret X67 hx hlk e67 hrt rfl (Or.inr (Or.inr (Or.inr (Or.inr ⟨rfl, rfl, rfl⟩)))) (hb hby d17_6) (by decide) (by decide) ⟨_, rfl, N66, K72, g68, z69, _, V67, Ex67⟩
abbrev k18 : ByteArray := jdk_43_method_3_code
theorem d18_0 : decode k18 0 = .ok (.iload_n 0, 1) := by decide +kernel
theorem d18_1 : decode k18 1 = .ok (.sipush 255, 3) := by decide +kernel
theorem d18_4 : decode k18 4 = .ok (.if_icmp .gt 7, 3) := by decide +kernel
theorem d18_11 : decode k18 11 = .ok (.iconst 0, 1) := by decide +kernel
theorem d18_12 : decode k18 12 = .ok (.ireturn, 1) := by decide +kernel
theorem d18_7 : decode k18 7 = .ok (.iconst 1, 1) := by decide +kernel
theorem d18_8 : decode k18 8 = .ok (.goto 4, 3) := by decide +kernel
abbrev y_18 : MethodName := ⟨"java/lang/StringLatin1", "canEncode", "(C)Z"⟩
abbrev r_canenc : Room := { frames := 0, cells := 0, slots := 0, locals := 0 }
theorem ef_canenc (mt : MethodId) (x : Int32) : entryFrame mt #[(.int x)] 1 = mkF mt 0 #[.val (.int x)] [] := by first | (simp [entryFrame, mkF, argsToLocals, Value.category]; done) | rfl
def Q_canenc (Z : State) (x : Int32) (h0 : Heap) (n0 : Nat) (v : Option Value) (h : Heap) (L : List Loc) : Prop := v = some (.int (if (255 : Int32) < x then (0 : Int32) else 1)) ∧ Fr n0 L ∧ h = h0
theorem rm_canenc (l : Launch) (Z : State) (a0 : Array Value) (hw : ∀ d ∈ tables_1, d.before a0 Z = true) (ws : List Jvm.Cond) (x : Int32) (h0 : Heap) (n0 : Nat) (Z0 : n0 ≤ h0.size) :
    Met l y_18 k18 1 (some .boolean) ws r_canenc #[(.int x)] Z h0 (Q_canenc Z x h0 n0) := by
  refine MetFree.of_bodySF (plainFor_of_name pn_4) hisR ?_
  intro p e s mt args below meth cd s₁ Bd hml0 hP hK
  obtain ⟨hA, hZ, hh⟩ := hP
  have hx := Bd.exec
  have hby := Bd.bytes
  have hml : cd.maxLocals = 1 := hml0
  have hlk : meth.locks = false := BodyLoose.notSynchronized Bd
  have hrt := Bd.returns
  have X0 : Stand p l e r_canenc s mt args below meth cd s₁ [] 0 0 := Stand.of_body Bd
  have e0 : s₁.heap = h0 := by rw [← hh, Bd.state]; rfl
  have N0 := Fr.nil n0
  show Win p e below (Ends s (Q_canenc Z x h0 n0) r_canenc.cells r_canenc.slots) s₁ (entryFrame mt args 1)
  rw [hA, ef_canenc]
  refine w_iloadN X0 hx hby d18_0 rfl ?_
  refine w_sipush X0 hx hby d18_1 ?_
  by_cases hc4 : (255 : Int32) < x
  · refine Win.st ?_ (fun tq kq => XS.icmpYes X0.here hx rfl (pc0 := 4) (pc' := 11) rfl (hb hby d18_4) rfl (tlt hc4).2.2.1 (by decide) (by decide) kq)
    refine w_iconst X0 hx hby d18_11 ?_
    show Win _ _ _ _ s₁ (mkF mt 12 #[.val (.int x)] [(.int (0 : Int32))])
    exact Win.retN X0 hx hlk e0 (t := .boolean) (z' := (0 : Int32)) hrt (by simp) (hb hby d18_12) (by decide) (by decide) rfl ⟨by rw [if_pos hc4], N0, rfl⟩
  · refine Win.st ?_ (fun tq kq => XS.icmpNo X0.here hx rfl (hb hby d18_4) rfl (flt hc4).2.2.1 kq)
    refine w_iconst X0 hx hby d18_7 ?_
    show Win _ _ _ _ s₁ (mkF mt 8 #[.val (.int x)] [(.int (1 : Int32))])
    refine Win.st ?_ (fun tq kq => XS.goto X0.here hx rfl (pc0 := 8) (pc' := 12) rfl (hb hby d18_8) (by decide) (by decide) kq)
    show Win _ _ _ _ s₁ (mkF mt 12 #[.val (.int x)] [(.int (1 : Int32))])
    exact Win.retN X0 hx hlk e0 (t := .boolean) (z' := (1 : Int32)) hrt (by simp) (hb hby d18_12) (by decide) (by decide) rfl ⟨by rw [if_neg hc4], N0, rfl⟩
abbrev k19 : ByteArray := jdk_43_method_46_code
theorem d19_0 : decode k19 0 = .ok (.iconst 1, 1) := by decide +kernel
theorem d19_1 : decode k19 1 = .ok (.newarray .byte, 2) := by decide +kernel
theorem d19_3 : decode k19 3 = .ok (.dup, 1) := by decide +kernel
theorem d19_4 : decode k19 4 = .ok (.iconst 0, 1) := by decide +kernel
theorem d19_5 : decode k19 5 = .ok (.iload_n 0, 1) := by decide +kernel
theorem d19_6 : decode k19 6 = .ok (.i2b, 1) := by decide +kernel
theorem d19_7 : decode k19 7 = .ok (.bastore, 1) := by decide +kernel
theorem d19_8 : decode k19 8 = .ok (.areturn, 1) := by decide +kernel
abbrev y_19 : MethodName := ⟨"java/lang/StringLatin1", "toBytes", "(C)[B"⟩
abbrev r_ltc : Room := { frames := 0, cells := 1, slots := 1, locals := 0 }
theorem ef_ltc (mt : MethodId) (x : Int32) : entryFrame mt #[(.int x)] 1 = mkF mt 0 #[.val (.int x)] [] := by first | (simp [entryFrame, mkF, argsToLocals, Value.category]; done) | rfl
def Q_ltc (Z : State) (x : Int32) (h0 : Heap) (n0 : Nat) (v : Option Value) (h : Heap) (L : List Loc) : Prop := ∃ r : Addr, v = some (.ref r) ∧ Fr n0 L ∧ Keep h0 h [] ∧ n0 ≤ r ∧ h0.size ≤ r ∧ ∃ k : ClassId, Arv Z h r k .byte (1 : Int32) [(.int (x.toInt8.toInt32))] (.int (0 : Int32))
theorem rm_ltc (l : Launch) (Z : State) (a0 : Array Value) (hw : ∀ d ∈ tables_1, d.before a0 Z = true) (ws : List Jvm.Cond) (x : Int32) (h0 : Heap) (n0 : Nat) (Z0 : n0 ≤ h0.size) :
    Met l y_19 k19 1 (some (.array .byte)) ws r_ltc #[(.int x)] Z h0 (Q_ltc Z x h0 n0) := by
  refine MetFree.of_bodySF (plainFor_of_name pn_4) hisR ?_
  intro p e s mt args below meth cd s₁ Bd hml0 hP hK
  obtain ⟨hA, hZ, hh⟩ := hP
  have hx := Bd.exec
  have hby := Bd.bytes
  have hml : cd.maxLocals = 1 := hml0
  have hlk : meth.locks = false := BodyLoose.notSynchronized Bd
  have hrt := Bd.returns
  have X0 : Stand p l e r_ltc s mt args below meth cd s₁ [] 0 0 := Stand.of_body Bd
  have e0 : s₁.heap = h0 := by rw [← hh, Bd.state]; rfl
  have N0 := Fr.nil n0
  show Win p e below (Ends s (Q_ltc Z x h0 n0) r_ltc.cells r_ltc.slots) s₁ (entryFrame mt args 1)
  rw [hA, ef_ltc]
  refine w_iconst X0 hx hby d19_0 ?_
  obtain ⟨T73, h73, k73, X73, e73, E73, A73, st73⟩ := newP X0 hx hZ (ow hw 19 rfl) e0 (g := (mkF mt 1 #[.val (.int x)] [(.int (1 : Int32))])) rfl (hb hby d19_1) rfl (by decide) (cap := 1) (by decide) (by decide) (by decide) (by decide)
  obtain ⟨b73, gq73⟩ : ∃ z, z = h0.size := ⟨_, rfl⟩
  rw [← gq73] at A73 st73
  have g74 : n0 ≤ b73 := own_newle Z0 gq73
  have z75 : h0.size ≤ b73 := own_newle (Keep.refl h0 []).1 gq73
  have ke73 := own_kext E73
  replace X73 : Stand p l e _ s mt args below meth cd T73 _ 1 1 := X73
  have K78 : Keep h0 h73 [] := Keep.trans (Keep.refl h0 []) ke73 all0
  have V73 : Arv Z h73 b73 k73 .byte (1 : Int32) [(.int (0 : Int32))] (.int (0 : Int32)) := (Arv.new A73 (by decide)).pad (pad_rep [] (.int (0 : Int32)) 1)
  refine Win.st ?_ st73
  show Win _ _ _ _ T73 (mkF mt 3 #[.val (.int x)] [(.ref b73)])
  refine Win.st ?_ (fun tq kq => XS.dup X73.here hx rfl (hb hby d19_3) rfl rfl kq)
  refine w_iconst X73 hx hby d19_4 ?_
  refine w_iloadN X73 hx hby d19_5 rfl ?_
  refine Win.st ?_ (fun tq kq => XS.i2b X73.here hx rfl (hb hby d19_6) rfl kq)
  show Win _ _ _ _ T73 (mkF mt 7 #[.val (.int x)] [(.int (x.toInt8.toInt32)), (.int (0 : Int32)), (.ref b73), (.ref b73)])
  obtain ⟨T79, h79, L79, X79, N79, e79, kp79, V79, st79⟩ := own_bast (g := (mkF mt 7 #[.val (.int x)] [(.int (x.toInt8.toInt32)), (.int (0 : Int32)), (.ref b73), (.ref b73)])) X73 hx hZ e73 N0 g74 V73 (j := (0 : Int32)) (by decide) (by decide) (i := 0) rfl (by decide) rfl rfl (hb hby d19_7)
  rw [own_b8] at V79
  replace V79 : Arv Z h79 b73 k73 .byte (1 : Int32) ([(.int (x.toInt8.toInt32))]) (.int (0 : Int32)) := V79
  have K82 : Keep h0 h79 [] := Keep.trans K78 kp79 (allS (Or.inr z75) all0)
  refine Win.st ?_ st79
  show Win _ _ _ _ T79 (mkF mt 8 #[.val (.int x)] [(.ref b73)])
  exact Win.ret X79 hx hlk e79 hrt rfl (Or.inr (Or.inr (Or.inr (Or.inr ⟨rfl, rfl, rfl⟩)))) (hb hby d19_8) (by decide) (by decide) ⟨_, rfl, N79, K82, g74, z75, _, V79⟩
abbrev k20 : ByteArray := jdk_52_method_24_code
theorem d20_0 : decode k20 0 = .ok (.iconst 2, 1) := by decide +kernel
theorem d20_1 : decode k20 1 = .ok (.newarray .byte, 2) := by decide +kernel
theorem d20_3 : decode k20 3 = .ok (.astore_n 1, 1) := by decide +kernel
theorem d20_4 : decode k20 4 = .ok (.aload_n 1, 1) := by decide +kernel
theorem d20_5 : decode k20 5 = .ok (.iconst 0, 1) := by decide +kernel
theorem d20_6 : decode k20 6 = .ok (.iload_n 0, 1) := by decide +kernel
theorem d20_7 : decode k20 7 = .ok (.invokestatic 111, 3) := by decide +kernel
theorem pd_10 : parseMethodDescriptor "([BII)V" = some ⟨[(.array .byte), .int, .int], none⟩ := by decide +kernel
theorem d20_10 : decode k20 10 = .ok (.aload_n 1, 1) := by decide +kernel
theorem d20_11 : decode k20 11 = .ok (.areturn, 1) := by decide +kernel
abbrev y_20 : MethodName := ⟨"java/lang/StringUTF16", "toBytes", "(C)[B"⟩
abbrev r_utc : Room := { frames := 1, cells := 1, slots := 2, locals := 14 }
theorem ef_utc (mt : MethodId) (x : Int32) : entryFrame mt #[(.int x)] 2 = mkF mt 0 #[.val (.int x), .unset] [] := by first | (simp [entryFrame, mkF, argsToLocals, Value.category]; done) | rfl
def Q_utc (Z : State) (x : Int32) (h0 : Heap) (n0 : Nat) (v : Option Value) (h : Heap) (L : List Loc) : Prop := ∃ r : Addr, v = some (.ref r) ∧ Fr n0 L ∧ Keep h0 h [] ∧ n0 ≤ r ∧ h0.size ≤ r ∧ ∃ k : ClassId, Arv Z h r k .byte (2 : Int32) [(.int (own_b0 x)), (.int (own_b1 x))] (.int (0 : Int32))
theorem rm_utc (l : Launch) (Z : State) (a0 : Array Value) (hw : ∀ d ∈ tables_1, d.before a0 Z = true) (ws : List Jvm.Cond) (x : Int32) (h0 : Heap) (n0 : Nat) (Z0 : n0 ≤ h0.size) (ST : own_St Z) (O : Old Z n0 h0) :
    Met l y_20 k20 2 (some (.array .byte)) ws r_utc #[(.int x)] Z h0 (Q_utc Z x h0 n0) := by
  refine MetFree.of_bodySF (plainFor_of_name pn_3) hisR ?_
  intro p e s mt args below meth cd s₁ Bd hml0 hP hK
  obtain ⟨hA, hZ, hh⟩ := hP
  have hx := Bd.exec
  have hby := Bd.bytes
  have hml : cd.maxLocals = 2 := hml0
  have hown : s.vm.findClass "java/lang/StringUTF16" = some mt.cls := findClass_of_methodNamed Bd.named
  have hlk : meth.locks = false := BodyLoose.notSynchronized Bd
  have hrt := Bd.returns
  have X0 : Stand p l e r_utc s mt args below meth cd s₁ [] 0 0 := Stand.of_body Bd
  have e0 : s₁.heap = h0 := by rw [← hh, Bd.state]; rfl
  have N0 := Fr.nil n0
  show Win p e below (Ends s (Q_utc Z x h0 n0) r_utc.cells r_utc.slots) s₁ (entryFrame mt args 2)
  rw [hA, ef_utc]
  obtain ⟨cs, u, S0, hcs, S1, hu, S2, S3, S4⟩ := id ST
  refine w_iconst X0 hx hby d20_0 ?_
  obtain ⟨T83, h83, k83, X83, e83, E83, A83, st83⟩ := newP X0 hx hZ (ow hw 19 rfl) e0 (g := (mkF mt 1 #[.val (.int x), .unset] [(.int (2 : Int32))])) rfl (hb hby d20_1) rfl (by decide) (cap := 2) (by decide) (by decide) (by decide) (by decide)
  obtain ⟨b83, gq83⟩ : ∃ z, z = h0.size := ⟨_, rfl⟩
  rw [← gq83] at A83 st83
  have g84 : n0 ≤ b83 := own_newle Z0 gq83
  have z85 : h0.size ≤ b83 := own_newle (Keep.refl h0 []).1 gq83
  have ke83 := own_kext E83
  replace X83 : Stand p l e _ s mt args below meth cd T83 _ 1 2 := X83
  have f86_9 := O.keep ke83 all0
  have Z87 : n0 ≤ h83.size := Nat.le_trans Z0 ke83.1
  have K88 : Keep h0 h83 [] := Keep.trans (Keep.refl h0 []) ke83 all0
  have V83 : Arv Z h83 b83 k83 .byte (2 : Int32) [(.int (0 : Int32)), (.int (0 : Int32))] (.int (0 : Int32)) := (Arv.new A83 (by decide)).pad (pad_rep [] (.int (0 : Int32)) 2)
  refine Win.st ?_ st83
  show Win _ _ _ _ T83 (mkF mt 3 #[.val (.int x), .unset] [(.ref b83)])
  refine Win.st ?_ (fun tq kq => XS.astoreN X83.here hx rfl (hb hby d20_3) rfl rfl (l' := #[.val (.int x), .val (.ref b83)]) rfl kq)
  refine w_aloadN X83 hx hby d20_4 rfl rfl ?_
  refine w_iconst X83 hx hby d20_5 ?_
  refine w_iloadN X83 hx hby d20_6 rfl ?_
  show Win _ _ _ _ T83 (mkF mt 7 #[.val (.int x), .val (.ref b83)] [(.int x), (.int (0 : Int32)), (.ref b83)])
  obtain ⟨v89, _, ⟨T89, L89, k89, n89⟩, -, X89, ⟨Lc89, hQ89, l89, rfl, rfl⟩, st89⟩ := Jvm.LawKit.callS X83 hx (y := y_11) hown (mvT hZ (ow hw 263 rfl)) (mvT hZ (ow hw 264 rfl)) (mvT hZ (ow hw 232 rfl)) (mvT hZ (ow hw 265 rfl)) (by decide) (backOf (W := 0) (rm_putc l Z a0 hw [] b83 x k83 2 [(.int (0 : Int32)), (.int (0 : Int32))] 0 h83 n0 Z87 V83 (by decide) (by decide) (by decide) (by simp) g84 ST f86_9) hZ (ow hw 265 rfl) (ow hw 232 rfl) (by decide) (by decide)) (g := (mkF mt 7 #[.val (.int x), .val (.ref b83)] [(.int x), (.int (0 : Int32)), (.ref b83)])) rfl (by rw [hml]; rfl) (argsL := [(.ref b83), (.int (0 : Int32)), (.int x)]) (rest := []) (lenOf pd_10 rfl) rfl (wz rfl) (hb hby d20_7) (fun _ _ => ⟨rfl, e83, (by decide : 1 + 0 ≤ _), (by decide : 2 + 0 ≤ _)⟩)
  replace X89 : Stand p l e _ s mt args below meth cd T89 L89 1 2 := X89
  obtain ⟨h89, e89⟩ : ∃ z, T89.heap = z := ⟨_, rfl⟩
  rw [e89] at hQ89
  obtain ⟨rfl, Nq89, K89, V89⟩ := hQ89
  have N89 := own_fr (L := L89) l89 N0 Nq89
  have K92 : Keep h0 h89 [] := Keep.trans K88 K89 (allS (Or.inr z85) all0)
  replace V89 : Arv Z h89 b83 k83 .byte (2 : Int32) [(.int (own_b0 x)), (.int (own_b1 x))] (.int (0 : Int32)) := V89
  refine Win.st ?_ st89
  refine w_aloadN X89 hx hby d20_10 rfl rfl ?_
  show Win _ _ _ _ T89 (mkF mt 11 #[.val (.int x), .val (.ref b83)] [(.ref b83)])
  exact Win.ret X89 hx hlk e89 hrt rfl (Or.inr (Or.inr (Or.inr (Or.inr ⟨rfl, rfl, rfl⟩)))) (hb hby d20_11) (by decide) (by decide) ⟨_, rfl, N89, K92, g84, z85, _, V89⟩
abbrev k21 : ByteArray := jdk_42_method_151_code
theorem d21_0 : decode k21 0 = .ok (.aload_n 0, 1) := by decide +kernel
theorem d21_1 : decode k21 1 = .ok (.invokespecial 1, 3) := by decide +kernel
theorem d21_4 : decode k21 4 = .ok (.aload_n 0, 1) := by decide +kernel
theorem d21_5 : decode k21 5 = .ok (.aload_n 1, 1) := by decide +kernel
theorem d21_6 : decode k21 6 = .ok (.putfield 9, 3) := by decide +kernel
theorem d21_9 : decode k21 9 = .ok (.aload_n 0, 1) := by decide +kernel
theorem d21_10 : decode k21 10 = .ok (.iload_n 2, 1) := by decide +kernel
theorem d21_11 : decode k21 11 = .ok (.putfield 15, 3) := by decide +kernel
theorem d21_14 : decode k21 14 = .ok (.return_, 1) := by decide +kernel
abbrev y_21 : MethodName := ⟨"java/lang/String", "<init>", "([BB)V"⟩
abbrev r_si2_0 : Room := { frames := 1, cells := 0, slots := 0, locals := 12 }
theorem ef_si2_0 (mt : MethodId) (a : Addr) (b : Addr) : entryFrame mt #[(.ref a), (.ref b), (.int (0 : Int32))] 3 = mkF mt 0 #[.val (.ref a), .val (.ref b), .val (.int (0 : Int32))] [] := by first | (simp [entryFrame, mkF, argsToLocals, Value.category]; done) | rfl
def Q_si2_0 (Z : State) (a : Addr) (b : Addr) (h0 : Heap) (n0 : Nat) (v : Option Value) (h : Heap) (L : List Loc) : Prop := v = none ∧ Fr n0 L ∧ Keep h0 h [a] ∧ Fld Z h a "java/lang/String" "value" "[B" (.ref b) ∧ Fld Z h a "java/lang/String" "coder" "B" (.int (0 : Int32))
theorem rm_si2_0 (l : Launch) (Z : State) (a0 : Array Value) (hw : ∀ d ∈ tables_1, d.before a0 Z = true) (ws : List Jvm.Cond) (a : Addr) (b : Addr) (h0 : Heap) (n0 : Nat) (Z0 : n0 ≤ h0.size) (E : Exa Z h0 a "java/lang/String") (Fv : Fld Z h0 a "java/lang/String" "value" "[B" .null) (Fc : Fld Z h0 a "java/lang/String" "coder" "B" (.int (0 : Int32))) (ga : n0 ≤ a) :
    Met l y_21 k21 3 none ws r_si2_0 #[(.ref a), (.ref b), (.int (0 : Int32))] Z h0 (Q_si2_0 Z a b h0 n0) := by
  refine MetFree.of_bodySF (plainFor_of_name pn_0) hisR ?_
  intro p e s mt args below meth cd s₁ Bd hml0 hP hK
  obtain ⟨hA, hZ, hh⟩ := hP
  have hx := Bd.exec
  have hby := Bd.bytes
  have hml : cd.maxLocals = 3 := hml0
  have hown : s.vm.findClass "java/lang/String" = some mt.cls := findClass_of_methodNamed Bd.named
  have hnm := (name_of_methodNamed Bd.named Bd.method).1
  have hlk : meth.locks = false := BodyLoose.notSynchronized Bd
  have hrt := Bd.returns
  have X0 : Stand p l e r_si2_0 s mt args below meth cd s₁ [] 0 0 := Stand.of_body Bd
  have e0 : s₁.heap = h0 := by rw [← hh, Bd.state]; rfl
  have N0 := Fr.nil n0
  show Win p e below (Ends s (Q_si2_0 Z a b h0 n0) r_si2_0.cells r_si2_0.slots) s₁ (entryFrame mt args 3)
  rw [hA, ef_si2_0]
  refine w_aloadN X0 hx hby d21_0 rfl rfl ?_
  show Win _ _ _ _ s₁ (mkF mt 1 #[.val (.ref a), .val (.ref b), .val (.int (0 : Int32))] [(.ref a)])
  obtain ⟨T93, X93, e93, st93⟩ := initO X0 hx hZ hown (ow hw 15 rfl) (ow hw 16 rfl) (ow hw 17 rfl) e0 (g := (mkF mt 1 #[.val (.ref a), .val (.ref b), .val (.int (0 : Int32))] [(.ref a)])) rfl (by rw [hml]; rfl) rfl (hb hby d21_1) (by decide) (W := 0) (by show 2 * 0 + _ ≤ _; exact Nat.le_of_eq rfl) (by decide)
  refine Win.st ?_ st93
  refine w_aloadN X93 hx hby d21_4 rfl rfl ?_
  refine w_aloadN X93 hx hby d21_5 rfl rfl ?_
  show Win _ _ _ _ T93 (mkF mt 6 #[.val (.ref a), .val (.ref b), .val (.int (0 : Int32))] [(.ref b), (.ref a)])
  obtain ⟨T94, h94, X94, e94, W94, st94⟩ := putF X93 hx hZ hown (host := "") (Or.inl (ow hw 24 rfl)) Via.refl e93 Fv E (Or.inr ⟨(ow hw 20 rfl), rfl, hnm⟩) (ow hw 5 rfl) (ty := (.array .byte)) (by decide) rfl rfl (g := (mkF mt 6 #[.val (.ref a), .val (.ref b), .val (.int (0 : Int32))] [(.ref b), (.ref a)])) rfl rfl (hb hby d21_6)
  obtain ⟨L94, X94, N94⟩ := own_hide X94 N0 ga
  have kp94 := Keep.of_wr W94
  have fw94 := Fv.same W94
  have f94_11 := Fc.other W94 (Or.inr (slot_ne (Or.inr (ow hw 21 rfl)) (Or.inr (ow hw 20 rfl)) (by decide) (t := .byte) (t' := (.array .byte)) (by decide) (by decide)))
  have f95_12 := E.keep kp94
  have K97 : Keep h0 h94 [a] := Keep.trans (Keep.refl h0 [a]) kp94 (allS (Or.inl (List.mem_of_getElem? (i := 0) rfl)) all0)
  refine Win.st ?_ st94
  refine w_aloadN X94 hx hby d21_9 rfl rfl ?_
  refine w_iloadN X94 hx hby d21_10 rfl ?_
  show Win _ _ _ _ T94 (mkF mt 11 #[.val (.ref a), .val (.ref b), .val (.int (0 : Int32))] [(.int (0 : Int32)), (.ref a)])
  obtain ⟨T98, h98, X98, e98, W98, st98⟩ := putFN X94 hx hZ hown (ow hw 25 rfl) Via.refl e94 f94_11 f95_12 (Or.inr ⟨(ow hw 21 rfl), rfl, hnm⟩) (ow hw 5 rfl) (ty := .byte) (v' := (.int (0 : Int32))) (by decide) rfl (by decide) (g := (mkF mt 11 #[.val (.ref a), .val (.ref b), .val (.int (0 : Int32))] [(.int (0 : Int32)), (.ref a)])) rfl rfl (hb hby d21_11)
  obtain ⟨L98, X98, N98⟩ := own_hide X98 N94 ga
  have kp98 := Keep.of_wr W98
  have f98_22 := fw94.other W98 (Or.inr (slot_ne (Or.inr (ow hw 20 rfl)) (Or.inr (ow hw 21 rfl)) (by decide) (t := (.array .byte)) (t' := .byte) (by decide) (by decide)))
  have fw98 := f94_11.same W98
  have K101 : Keep h0 h98 [a] := Keep.trans K97 kp98 (allS (Or.inl (List.mem_of_getElem? (i := 0) rfl)) all0)
  refine Win.st ?_ st98
  show Win _ _ _ _ T98 (mkF mt 14 #[.val (.ref a), .val (.ref b), .val (.int (0 : Int32))] [])
  exact Win.retV X98 hx hlk e98 hrt (hb hby d21_14) (by decide) (by decide) ⟨rfl, N98, K101, f98_22, fw98⟩
abbrev r_si2_1 : Room := { frames := 1, cells := 0, slots := 0, locals := 12 }
theorem ef_si2_1 (mt : MethodId) (a : Addr) (b : Addr) : entryFrame mt #[(.ref a), (.ref b), (.int (1 : Int32))] 3 = mkF mt 0 #[.val (.ref a), .val (.ref b), .val (.int (1 : Int32))] [] := by first | (simp [entryFrame, mkF, argsToLocals, Value.category]; done) | rfl
def Q_si2_1 (Z : State) (a : Addr) (b : Addr) (h0 : Heap) (n0 : Nat) (v : Option Value) (h : Heap) (L : List Loc) : Prop := v = none ∧ Fr n0 L ∧ Keep h0 h [a] ∧ Fld Z h a "java/lang/String" "value" "[B" (.ref b) ∧ Fld Z h a "java/lang/String" "coder" "B" (.int (1 : Int32))
theorem rm_si2_1 (l : Launch) (Z : State) (a0 : Array Value) (hw : ∀ d ∈ tables_1, d.before a0 Z = true) (ws : List Jvm.Cond) (a : Addr) (b : Addr) (h0 : Heap) (n0 : Nat) (Z0 : n0 ≤ h0.size) (E : Exa Z h0 a "java/lang/String") (Fv : Fld Z h0 a "java/lang/String" "value" "[B" .null) (Fc : Fld Z h0 a "java/lang/String" "coder" "B" (.int (0 : Int32))) (ga : n0 ≤ a) :
    Met l y_21 k21 3 none ws r_si2_1 #[(.ref a), (.ref b), (.int (1 : Int32))] Z h0 (Q_si2_1 Z a b h0 n0) := by
  refine MetFree.of_bodySF (plainFor_of_name pn_0) hisR ?_
  intro p e s mt args below meth cd s₁ Bd hml0 hP hK
  obtain ⟨hA, hZ, hh⟩ := hP
  have hx := Bd.exec
  have hby := Bd.bytes
  have hml : cd.maxLocals = 3 := hml0
  have hown : s.vm.findClass "java/lang/String" = some mt.cls := findClass_of_methodNamed Bd.named
  have hnm := (name_of_methodNamed Bd.named Bd.method).1
  have hlk : meth.locks = false := BodyLoose.notSynchronized Bd
  have hrt := Bd.returns
  have X0 : Stand p l e r_si2_1 s mt args below meth cd s₁ [] 0 0 := Stand.of_body Bd
  have e0 : s₁.heap = h0 := by rw [← hh, Bd.state]; rfl
  have N0 := Fr.nil n0
  show Win p e below (Ends s (Q_si2_1 Z a b h0 n0) r_si2_1.cells r_si2_1.slots) s₁ (entryFrame mt args 3)
  rw [hA, ef_si2_1]
  refine w_aloadN X0 hx hby d21_0 rfl rfl ?_
  show Win _ _ _ _ s₁ (mkF mt 1 #[.val (.ref a), .val (.ref b), .val (.int (1 : Int32))] [(.ref a)])
  obtain ⟨T102, X102, e102, st102⟩ := initO X0 hx hZ hown (ow hw 15 rfl) (ow hw 16 rfl) (ow hw 17 rfl) e0 (g := (mkF mt 1 #[.val (.ref a), .val (.ref b), .val (.int (1 : Int32))] [(.ref a)])) rfl (by rw [hml]; rfl) rfl (hb hby d21_1) (by decide) (W := 0) (by show 2 * 0 + _ ≤ _; exact Nat.le_of_eq rfl) (by decide)
  refine Win.st ?_ st102
  refine w_aloadN X102 hx hby d21_4 rfl rfl ?_
  refine w_aloadN X102 hx hby d21_5 rfl rfl ?_
  show Win _ _ _ _ T102 (mkF mt 6 #[.val (.ref a), .val (.ref b), .val (.int (1 : Int32))] [(.ref b), (.ref a)])
  obtain ⟨T103, h103, X103, e103, W103, st103⟩ := putF X102 hx hZ hown (host := "") (Or.inl (ow hw 24 rfl)) Via.refl e102 Fv E (Or.inr ⟨(ow hw 20 rfl), rfl, hnm⟩) (ow hw 5 rfl) (ty := (.array .byte)) (by decide) rfl rfl (g := (mkF mt 6 #[.val (.ref a), .val (.ref b), .val (.int (1 : Int32))] [(.ref b), (.ref a)])) rfl rfl (hb hby d21_6)
  obtain ⟨L103, X103, N103⟩ := own_hide X103 N0 ga
  have kp103 := Keep.of_wr W103
  have fw103 := Fv.same W103
  have f103_11 := Fc.other W103 (Or.inr (slot_ne (Or.inr (ow hw 21 rfl)) (Or.inr (ow hw 20 rfl)) (by decide) (t := .byte) (t' := (.array .byte)) (by decide) (by decide)))
  have f104_12 := E.keep kp103
  have K106 : Keep h0 h103 [a] := Keep.trans (Keep.refl h0 [a]) kp103 (allS (Or.inl (List.mem_of_getElem? (i := 0) rfl)) all0)
  refine Win.st ?_ st103
  refine w_aloadN X103 hx hby d21_9 rfl rfl ?_
  refine w_iloadN X103 hx hby d21_10 rfl ?_
  show Win _ _ _ _ T103 (mkF mt 11 #[.val (.ref a), .val (.ref b), .val (.int (1 : Int32))] [(.int (1 : Int32)), (.ref a)])
  obtain ⟨T107, h107, X107, e107, W107, st107⟩ := putFN X103 hx hZ hown (ow hw 25 rfl) Via.refl e103 f103_11 f104_12 (Or.inr ⟨(ow hw 21 rfl), rfl, hnm⟩) (ow hw 5 rfl) (ty := .byte) (v' := (.int (1 : Int32))) (by decide) rfl (by decide) (g := (mkF mt 11 #[.val (.ref a), .val (.ref b), .val (.int (1 : Int32))] [(.int (1 : Int32)), (.ref a)])) rfl rfl (hb hby d21_11)
  obtain ⟨L107, X107, N107⟩ := own_hide X107 N103 ga
  have kp107 := Keep.of_wr W107
  have f107_22 := fw103.other W107 (Or.inr (slot_ne (Or.inr (ow hw 20 rfl)) (Or.inr (ow hw 21 rfl)) (by decide) (t := (.array .byte)) (t' := .byte) (by decide) (by decide)))
  have fw107 := f103_11.same W107
  have K110 : Keep h0 h107 [a] := Keep.trans K106 kp107 (allS (Or.inl (List.mem_of_getElem? (i := 0) rfl)) all0)
  refine Win.st ?_ st107
  show Win _ _ _ _ T107 (mkF mt 14 #[.val (.ref a), .val (.ref b), .val (.int (1 : Int32))] [])
  exact Win.retV X107 hx hlk e107 hrt (hb hby d21_14) (by decide) (by decide) ⟨rfl, N107, K110, f107_22, fw107⟩
abbrev k22 : ByteArray := jdk_42_method_139_code
theorem d22_0 : decode k22 0 = .ok (.getstatic 38, 3) := by decide +kernel
theorem d22_3 : decode k22 3 = .ok (.ifCond .eq 23, 3) := by decide +kernel
theorem d22_6 : decode k22 6 = .ok (.iload_n 0, 1) := by decide +kernel
theorem d22_7 : decode k22 7 = .ok (.invokestatic 1015, 3) := by decide +kernel
theorem pd_11 : parseMethodDescriptor "(C)Z" = some ⟨[.char], some .boolean⟩ := by decide +kernel
theorem d22_10 : decode k22 10 = .ok (.ifCond .eq 16, 3) := by decide +kernel
theorem d22_26 : decode k22 26 = .ok (.new 10, 3) := by decide +kernel
theorem d22_29 : decode k22 29 = .ok (.dup, 1) := by decide +kernel
theorem d22_30 : decode k22 30 = .ok (.iload_n 0, 1) := by decide +kernel
theorem d22_31 : decode k22 31 = .ok (.invokestatic 1021, 3) := by decide +kernel
theorem pd_12 : parseMethodDescriptor "(C)[B" = some ⟨[.char], some (.array .byte)⟩ := by decide +kernel
theorem d22_34 : decode k22 34 = .ok (.iconst 1, 1) := by decide +kernel
theorem d22_35 : decode k22 35 = .ok (.invokespecial 209, 3) := by decide +kernel
theorem pd_13 : parseMethodDescriptor "([BB)V" = some ⟨[(.array .byte), .byte], none⟩ := by decide +kernel
theorem d22_38 : decode k22 38 = .ok (.areturn, 1) := by decide +kernel
theorem d22_13 : decode k22 13 = .ok (.new 10, 3) := by decide +kernel
theorem d22_16 : decode k22 16 = .ok (.dup, 1) := by decide +kernel
theorem d22_17 : decode k22 17 = .ok (.iload_n 0, 1) := by decide +kernel
theorem d22_18 : decode k22 18 = .ok (.invokestatic 1018, 3) := by decide +kernel
theorem d22_21 : decode k22 21 = .ok (.iconst 0, 1) := by decide +kernel
theorem d22_22 : decode k22 22 = .ok (.invokespecial 209, 3) := by decide +kernel
theorem d22_25 : decode k22 25 = .ok (.areturn, 1) := by decide +kernel
abbrev y_22 : MethodName := ⟨"java/lang/String", "valueOf", "(C)Ljava/lang/String;"⟩
abbrev r_valueof : Room := { frames := 2, cells := 2, slots := 6, locals := 29 }
theorem ef_valueof (mt : MethodId) (x0 : Int32) : entryFrame mt #[(.int x0)] 1 = mkF mt 0 #[.val (.int x0)] [] := by first | (simp [entryFrame, mkF, argsToLocals, Value.category]; done) | rfl
def Q_valueof (Z : State) (x0 : Int32) (x1 : Int32) (x2 : Int32) (h0 : Heap) (n0 : Nat) (v : Option Value) (h : Heap) (L : List Loc) : Prop := ∃ r : Addr, v = some (.ref r) ∧ Fr n0 L ∧ Keep h0 h [] ∧ Exa Z h r "java/lang/String" ∧ ∃ (t : Addr) (k : ClassId) (z : Int32) (vs : List Value) (cd : Int32), Fld Z h r "java/lang/String" "value" "[B" (.ref t) ∧ Fld Z h r "java/lang/String" "coder" "B" (.int cd) ∧ Arv Z h t k .byte z vs (.int (0 : Int32)) ∧ own_S cd z 1 (own_f x0 x1 x2) vs
theorem rm_valueof (l : Launch) (Z : State) (a0 : Array Value) (hw : ∀ d ∈ tables_1, d.before a0 Z = true) (ws : List Jvm.Cond) (x0 : Int32) (x1 : Int32) (x2 : Int32) (h0 : Heap) (n0 : Nat) (Z0 : n0 ≤ h0.size) (ST : own_St Z) (O : Old Z n0 h0) (hX0 : own_C x0) :
    Met l y_22 k22 1 (some (.object "java/lang/String")) ws r_valueof #[(.int x0)] Z h0 (Q_valueof Z x0 x1 x2 h0 n0) := by
  refine MetFree.of_bodySF (plainFor_of_name pn_0) hisR ?_
  intro p e s mt args below meth cd s₁ Bd hml0 hP hK
  obtain ⟨hA, hZ, hh⟩ := hP
  have hx := Bd.exec
  have hby := Bd.bytes
  have hml : cd.maxLocals = 1 := hml0
  have hown : s.vm.findClass "java/lang/String" = some mt.cls := findClass_of_methodNamed Bd.named
  have hlk : meth.locks = false := BodyLoose.notSynchronized Bd
  have hrt := Bd.returns
  have X0 : Stand p l e r_valueof s mt args below meth cd s₁ [] 0 0 := Stand.of_body Bd
  have e0 : s₁.heap = h0 := by rw [← hh, Bd.state]; rfl
  have N0 := Fr.nil n0
  show Win p e below (Ends s (Q_valueof Z x0 x1 x2 h0 n0) r_valueof.cells r_valueof.slots) s₁ (entryFrame mt args 1)
  rw [hA, ef_valueof]
  obtain ⟨cs, u, S0, hcs, S1, hu, S2, S3, S4⟩ := id ST
  obtain ⟨T111, X111, e111, st111⟩ := getS2 X0 hx hZ hown (host := "") (Or.inl (ow hw 71 rfl)) Via.refl e0 (S0.ext O.2) (g := (mkF mt 0 #[.val (.int x0)] [])) rfl (hb hby d22_0)
  refine Win.st ?_ st111
  show Win _ _ _ _ T111 (mkF mt 3 #[.val (.int x0)] [(.int cs)])
  refine Win.st ?_ (fun tq kq => XS.ifNo X111.here hx rfl (hb hby d22_3) rfl ((if0 _ _).trans (feq hcs).1) kq)
  refine w_iloadN X111 hx hby d22_6 rfl ?_
  show Win _ _ _ _ T111 (mkF mt 7 #[.val (.int x0)] [(.int x0)])
  obtain ⟨v112, _, ⟨T112, L112, k112, n112⟩, -, X112, ⟨Lc112, hQ112, l112, rfl, rfl⟩, st112⟩ := Jvm.LawKit.callS X111 hx (y := y_18) hown (mvT hZ (ow hw 243 rfl)) (mvT hZ (ow hw 244 rfl)) (mvT hZ (ow hw 220 rfl)) (mvT hZ (ow hw 245 rfl)) (by decide) (backOf (W := 0) (rm_canenc l Z a0 hw [] x0 h0 n0 Z0 ) hZ (ow hw 245 rfl) (ow hw 220 rfl) (by decide) (by decide)) (g := (mkF mt 7 #[.val (.int x0)] [(.int x0)])) rfl (by rw [hml]; rfl) (argsL := [(.int x0)]) (rest := []) (lenOf pd_11 rfl) rfl (wz rfl) (hb hby d22_7) (fun _ _ => ⟨rfl, e111, (by decide : 0 + 0 ≤ _), (by decide : 0 + 0 ≤ _)⟩)
  replace X112 : Stand p l e _ s mt args below meth cd T112 L112 0 0 := X112
  obtain ⟨rfl, Nq112, eh112⟩ := hQ112
  have N112 := own_fr (L := L112) l112 N0 Nq112
  refine Win.st ?_ st112
  show Win _ _ _ _ T112 (mkF mt 10 #[.val (.int x0)] [(.int (if (255 : Int32) < x0 then (0 : Int32) else 1))])
  by_cases hbig : (255 : Int32) < x0
  · rw [if_pos hbig]
    show Win _ _ _ _ T112 (mkF mt 10 #[.val (.int x0)] [(.int (0 : Int32))])
    refine Win.st ?_ (fun tq kq => XS.ifYes X112.here hx rfl (pc0 := 10) (pc' := 26) rfl (hb hby d22_10) rfl ((if0 _ _).trans (teq (rfl : (0 : Int32) = (0 : Int32))).1) (by decide) (by decide) kq)
    show Win _ _ _ _ T112 (mkF mt 26 #[.val (.int x0)] [])
    obtain ⟨T113, h113, X113, e113, E113, A113, D113, -, st113⟩ := newO X112 hx hZ hown (ow hw 246 rfl) (ow hw 5 rfl) (ow hw 6 rfl) eh112 (g := (mkF mt 26 #[.val (.int x0)] [])) rfl (hb hby d22_26) (by decide) (by decide)
    obtain ⟨b113, gq113⟩ : ∃ z, z = h0.size := ⟨_, rfl⟩
    rw [← gq113] at A113 D113 st113
    have g114 : n0 ≤ b113 := own_newle Z0 gq113
    have z115 : h0.size ≤ b113 := own_newle (Keep.refl h0 []).1 gq113
    have ke113 := own_kext E113
    replace X113 : Stand p l e _ s mt args below meth cd T113 _ 1 4 := X113
    have f116_25 := O.keep ke113 all0
    have Z117 : n0 ≤ h113.size := Nat.le_trans Z0 ke113.1
    have K118 : Keep h0 h113 [] := Keep.trans (Keep.refl h0 []) ke113 all0
    have fn113_value : Fld Z h113 b113 "java/lang/String" "value" "[B" .null := D113 (Or.inr (ow hw 20 rfl)) (ty := (.array .byte)) (by decide)
    have fn113_coder : Fld Z h113 b113 "java/lang/String" "coder" "B" (.int (0 : Int32)) := D113 (Or.inr (ow hw 21 rfl)) (ty := .byte) (by decide)
    refine Win.st ?_ st113
    show Win _ _ _ _ T113 (mkF mt 29 #[.val (.int x0)] [(.ref b113)])
    refine Win.st ?_ (fun tq kq => XS.dup X113.here hx rfl (hb hby d22_29) rfl rfl kq)
    refine w_iloadN X113 hx hby d22_30 rfl ?_
    show Win _ _ _ _ T113 (mkF mt 31 #[.val (.int x0)] [(.int x0), (.ref b113), (.ref b113)])
    obtain ⟨v119, _, ⟨T119, L119, k119, n119⟩, -, X119, ⟨Lc119, hQ119, l119, rfl, rfl⟩, st119⟩ := Jvm.LawKit.callS X113 hx (y := y_20) hown (mvT hZ (ow hw 316 rfl)) (mvT hZ (ow hw 317 rfl)) (mvT hZ (ow hw 232 rfl)) (mvT hZ (ow hw 318 rfl)) (by decide) (backOf (W := 2) (rm_utc l Z a0 hw [] x0 h113 n0 Z117 ST f116_25) hZ (ow hw 318 rfl) (ow hw 232 rfl) (by decide) (by decide)) (g := (mkF mt 31 #[.val (.int x0)] [(.int x0), (.ref b113), (.ref b113)])) rfl (by rw [hml]; rfl) (argsL := [(.int x0)]) (rest := [(.ref b113), (.ref b113)]) (lenOf pd_12 rfl) rfl (wz rfl) (hb hby d22_31) (fun _ _ => ⟨rfl, e113, (by decide : 1 + 1 ≤ _), (by decide : 4 + 2 ≤ _)⟩)
    replace X119 : Stand p l e _ s mt args below meth cd T119 L119 2 6 := X119
    obtain ⟨h119, e119⟩ : ∃ z, T119.heap = z := ⟨_, rfl⟩
    rw [e119] at hQ119
    obtain ⟨bb, rfl, Nq119, K119, gb119, sb119, kb, V119⟩ := hQ119
    have N119 := own_fr (L := L119) l119 N112 Nq119
    have f120_42 := A113.keep K119
    have f120_43 := fn113_value.keep K119 nin0
    have f120_44 := fn113_coder.keep K119 nin0
    have Z121 : n0 ≤ h119.size := Nat.le_trans Z117 K119.1
    have K122 : Keep h0 h119 [] := Keep.trans K118 K119 all0
    have ne123 : b113 ≠ bb := Nat.ne_of_lt (Nat.lt_of_lt_of_le A113.lt sb119)
    have szb : h0.size ≤ bb := Nat.le_trans K118.1 sb119
    refine Win.st ?_ st119
    refine w_iconst X119 hx hby d22_34 ?_
    show Win _ _ _ _ T119 (mkF mt 35 #[.val (.int x0)] [(.int (1 : Int32)), (.ref bb), (.ref b113), (.ref b113)])
    obtain ⟨v124, _, ⟨T124, L124, k124, n124⟩, -, X124, ⟨Lc124, hQ124, l124, rfl, rfl⟩, st124⟩ := X119.specialBack hx (y := y_21) rfl hown (mvT hZ (ow hw 250 rfl)) (mvT hZ (ow hw 251 rfl)) (mvT hZ (ow hw 252 rfl)) (by decide) (backOf (W := 1) (rm_si2_1 l Z a0 hw [] b113 bb h119 n0 Z121 f120_42 f120_43 f120_44 g114) hZ (ow hw 252 rfl) (ow hw 6 rfl) (by decide) (by decide)) (g := (mkF mt 35 #[.val (.int x0)] [(.int (1 : Int32)), (.ref bb), (.ref b113), (.ref b113)])) rfl (by rw [hml]; rfl) (Steps.refl _) (a := b113) (argsL := [(.ref bb), (.int (1 : Int32))]) (rest := [(.ref b113)]) (lenOf pd_13 rfl) rfl (wz rfl) (hb hby d22_35) (fun _ _ => ⟨rfl, e119, (by decide : 2 + 0 ≤ _), (by decide : 6 + 0 ≤ _)⟩)
    replace X124 : Stand p l e _ s mt args below meth cd T124 L124 2 6 := X124
    obtain ⟨h124, e124⟩ : ∃ z, T124.heap = z := ⟨_, rfl⟩
    rw [e124] at hQ124
    obtain ⟨rfl, Nq124, K124, fv124, fc124⟩ := hQ124
    have N124 := own_fr (L := L124) l124 N119 Nq124
    have f125_59 := f120_42.keep K124
    have f125_60 := V119.keep K124 (ninS (Ne.symm ne123) nin0)
    have K127 : Keep h0 h124 [] := Keep.trans K122 K124 (allS (Or.inr z115) all0)
    refine Win.tr ?_ st124
    show Win _ _ _ _ T124 (mkF mt 38 #[.val (.int x0)] [(.ref b113)])
    exact Win.ret X124 hx hlk e124 hrt rfl (Or.inr (Or.inr (Or.inr (Or.inr ⟨rfl, rfl, rfl⟩)))) (hb hby d22_38) (by decide) (by decide) ⟨_, rfl, N124, K127, f125_59, bb, kb, _, _, _, fv124, fc124, f125_60, own_S1_1 x1 x2 hX0⟩
  · rw [if_neg hbig]
    show Win _ _ _ _ T112 (mkF mt 10 #[.val (.int x0)] [(.int (1 : Int32))])
    refine Win.st ?_ (fun tq kq => XS.ifNo X112.here hx rfl (hb hby d22_10) rfl ((if0 _ _).trans (feq (by decide : ¬ ((1 : Int32) = (0 : Int32)))).1) kq)
    show Win _ _ _ _ T112 (mkF mt 13 #[.val (.int x0)] [])
    obtain ⟨T128, h128, X128, e128, E128, A128, D128, -, st128⟩ := newO X112 hx hZ hown (ow hw 246 rfl) (ow hw 5 rfl) (ow hw 6 rfl) eh112 (g := (mkF mt 13 #[.val (.int x0)] [])) rfl (hb hby d22_13) (by decide) (by decide)
    obtain ⟨b128, gq128⟩ : ∃ z, z = h0.size := ⟨_, rfl⟩
    rw [← gq128] at A128 D128 st128
    have g129 : n0 ≤ b128 := own_newle Z0 gq128
    have z130 : h0.size ≤ b128 := own_newle (Keep.refl h0 []).1 gq128
    have ke128 := own_kext E128
    replace X128 : Stand p l e _ s mt args below meth cd T128 _ 1 4 := X128
    have Z132 : n0 ≤ h128.size := Nat.le_trans Z0 ke128.1
    have K133 : Keep h0 h128 [] := Keep.trans (Keep.refl h0 []) ke128 all0
    have fn128_value : Fld Z h128 b128 "java/lang/String" "value" "[B" .null := D128 (Or.inr (ow hw 20 rfl)) (ty := (.array .byte)) (by decide)
    have fn128_coder : Fld Z h128 b128 "java/lang/String" "coder" "B" (.int (0 : Int32)) := D128 (Or.inr (ow hw 21 rfl)) (ty := .byte) (by decide)
    refine Win.st ?_ st128
    show Win _ _ _ _ T128 (mkF mt 16 #[.val (.int x0)] [(.ref b128)])
    refine Win.st ?_ (fun tq kq => XS.dup X128.here hx rfl (hb hby d22_16) rfl rfl kq)
    refine w_iloadN X128 hx hby d22_17 rfl ?_
    show Win _ _ _ _ T128 (mkF mt 18 #[.val (.int x0)] [(.int x0), (.ref b128), (.ref b128)])
    obtain ⟨v134, _, ⟨T134, L134, k134, n134⟩, -, X134, ⟨Lc134, hQ134, l134, rfl, rfl⟩, st134⟩ := Jvm.LawKit.callS X128 hx (y := y_19) hown (mvT hZ (ow hw 247 rfl)) (mvT hZ (ow hw 248 rfl)) (mvT hZ (ow hw 220 rfl)) (mvT hZ (ow hw 249 rfl)) (by decide) (backOf (W := 2) (rm_ltc l Z a0 hw [] x0 h128 n0 Z132 ) hZ (ow hw 249 rfl) (ow hw 220 rfl) (by decide) (by decide)) (g := (mkF mt 18 #[.val (.int x0)] [(.int x0), (.ref b128), (.ref b128)])) rfl (by rw [hml]; rfl) (argsL := [(.int x0)]) (rest := [(.ref b128), (.ref b128)]) (lenOf pd_12 rfl) rfl (wz rfl) (hb hby d22_18) (fun _ _ => ⟨rfl, e128, (by decide : 1 + 1 ≤ _), (by decide : 4 + 1 ≤ _)⟩)
    replace X134 : Stand p l e _ s mt args below meth cd T134 L134 2 5 := X134
    obtain ⟨h134, e134⟩ : ∃ z, T134.heap = z := ⟨_, rfl⟩
    rw [e134] at hQ134
    obtain ⟨bb, rfl, Nq134, K134, gb134, sb134, kb, V134⟩ := hQ134
    have N134 := own_fr (L := L134) l134 N112 Nq134
    have f135_94 := A128.keep K134
    have f135_95 := fn128_value.keep K134 nin0
    have f135_96 := fn128_coder.keep K134 nin0
    have Z136 : n0 ≤ h134.size := Nat.le_trans Z132 K134.1
    have K137 : Keep h0 h134 [] := Keep.trans K133 K134 all0
    have ne138 : b128 ≠ bb := Nat.ne_of_lt (Nat.lt_of_lt_of_le A128.lt sb134)
    have szb : h0.size ≤ bb := Nat.le_trans K133.1 sb134
    refine Win.st ?_ st134
    refine w_iconst X134 hx hby d22_21 ?_
    show Win _ _ _ _ T134 (mkF mt 22 #[.val (.int x0)] [(.int (0 : Int32)), (.ref bb), (.ref b128), (.ref b128)])
    obtain ⟨v139, _, ⟨T139, L139, k139, n139⟩, -, X139, ⟨Lc139, hQ139, l139, rfl, rfl⟩, st139⟩ := X134.specialBack hx (y := y_21) rfl hown (mvT hZ (ow hw 250 rfl)) (mvT hZ (ow hw 251 rfl)) (mvT hZ (ow hw 252 rfl)) (by decide) (backOf (W := 1) (rm_si2_0 l Z a0 hw [] b128 bb h134 n0 Z136 f135_94 f135_95 f135_96 g129) hZ (ow hw 252 rfl) (ow hw 6 rfl) (by decide) (by decide)) (g := (mkF mt 22 #[.val (.int x0)] [(.int (0 : Int32)), (.ref bb), (.ref b128), (.ref b128)])) rfl (by rw [hml]; rfl) (Steps.refl _) (a := b128) (argsL := [(.ref bb), (.int (0 : Int32))]) (rest := [(.ref b128)]) (lenOf pd_13 rfl) rfl (wz rfl) (hb hby d22_22) (fun _ _ => ⟨rfl, e134, (by decide : 2 + 0 ≤ _), (by decide : 5 + 0 ≤ _)⟩)
    replace X139 : Stand p l e _ s mt args below meth cd T139 L139 2 5 := X139
    obtain ⟨h139, e139⟩ : ∃ z, T139.heap = z := ⟨_, rfl⟩
    rw [e139] at hQ139
    obtain ⟨rfl, Nq139, K139, fv139, fc139⟩ := hQ139
    have N139 := own_fr (L := L139) l139 N134 Nq139
    have f140_111 := f135_94.keep K139
    have f140_112 := V134.keep K139 (ninS (Ne.symm ne138) nin0)
    have K142 : Keep h0 h139 [] := Keep.trans K137 K139 (allS (Or.inr z130) all0)
    refine Win.tr ?_ st139
    show Win _ _ _ _ T139 (mkF mt 25 #[.val (.int x0)] [(.ref b128)])
    exact Win.ret X139 hx hlk e139 hrt rfl (Or.inr (Or.inr (Or.inr (Or.inr ⟨rfl, rfl, rfl⟩)))) (hb hby d22_25) (by decide) (by decide) ⟨_, rfl, N139, K142, f140_111, bb, kb, _, _, _, fv139, fc139, f140_112, own_S0_1 x1 x2 (own_B_of hX0 hbig)⟩
abbrev k23 : ByteArray := jdk_52_method_14_code
theorem d23_0 : decode k23 0 = .ok (.iload_n 2, 1) := by decide +kernel
theorem d23_1 : decode k23 1 = .ok (.invokestatic 107, 3) := by decide +kernel
theorem pd_14 : parseMethodDescriptor "(I)[B" = some ⟨[.int], some (.array .byte)⟩ := by decide +kernel
theorem d23_4 : decode k23 4 = .ok (.astore_n 3, 1) := by decide +kernel
theorem d23_5 : decode k23 5 = .ok (.iconst 0, 1) := by decide +kernel
theorem d23_6 : decode k23 6 = .ok (.istore 4, 2) := by decide +kernel
theorem d23_8 : decode k23 8 = .ok (.iload 4, 2) := by decide +kernel
theorem d23_10 : decode k23 10 = .ok (.iload_n 2, 1) := by decide +kernel
theorem d23_11 : decode k23 11 = .ok (.if_icmp .ge 21, 3) := by decide +kernel
theorem d23_14 : decode k23 14 = .ok (.aload_n 3, 1) := by decide +kernel
theorem d23_15 : decode k23 15 = .ok (.iload 4, 2) := by decide +kernel
theorem d23_17 : decode k23 17 = .ok (.aload_n 0, 1) := by decide +kernel
theorem d23_18 : decode k23 18 = .ok (.iload_n 1, 1) := by decide +kernel
theorem d23_19 : decode k23 19 = .ok (.caload, 1) := by decide +kernel
theorem d23_20 : decode k23 20 = .ok (.invokestatic 111, 3) := by decide +kernel
theorem d23_23 : decode k23 23 = .ok (.iinc 1 1, 3) := by decide +kernel
theorem d23_26 : decode k23 26 = .ok (.iinc 4 1, 3) := by decide +kernel
theorem d23_29 : decode k23 29 = .ok (.goto (-21), 3) := by decide +kernel
theorem d23_32 : decode k23 32 = .ok (.aload_n 3, 1) := by decide +kernel
theorem d23_33 : decode k23 33 = .ok (.areturn, 1) := by decide +kernel
abbrev y_23 : MethodName := ⟨"java/lang/StringUTF16", "toBytes", "([CII)[B"⟩
abbrev r_utb_2 : Room := { frames := 2, cells := 1, slots := 4, locals := 24 }
theorem ef_utb_2 (mt : MethodId) (a : Addr) : entryFrame mt #[(.ref a), (.int (0 : Int32)), (.int (2 : Int32))] 5 = mkF mt 0 #[.val (.ref a), .val (.int (0 : Int32)), .val (.int (2 : Int32)), .unset, .unset] [] := by first | (simp [entryFrame, mkF, argsToLocals, Value.category]; done) | rfl
def Q_utb_2 (Z : State) (a : Addr) (ka : ClassId) (x0 : Int32) (x1 : Int32) (x2 : Int32) (h0 : Heap) (n0 : Nat) (v : Option Value) (h : Heap) (L : List Loc) : Prop := ∃ r : Addr, v = some (.ref r) ∧ Fr n0 L ∧ Keep h0 h [] ∧ n0 ≤ r ∧ h0.size ≤ r ∧ ∃ k : ClassId, Arv Z h r k .byte (4 : Int32) [(.int (own_b0 x0)), (.int (own_b1 x0)), (.int (own_b0 x1)), (.int (own_b1 x1))] (.int (0 : Int32))
theorem rm_utb_2 (l : Launch) (Z : State) (a0 : Array Value) (hw : ∀ d ∈ tables_1, d.before a0 Z = true) (ws : List Jvm.Cond) (a : Addr) (ka : ClassId) (x0 : Int32) (x1 : Int32) (x2 : Int32) (h0 : Heap) (n0 : Nat) (Z0 : n0 ≤ h0.size) (VA : Arv Z h0 a ka .char (2 : Int32) [(.int x0), (.int x1)] (.int (0 : Int32))) (ST : own_St Z) (O : Old Z n0 h0) :
    Met l y_23 k23 5 (some (.array .byte)) ws r_utb_2 #[(.ref a), (.int (0 : Int32)), (.int (2 : Int32))] Z h0 (Q_utb_2 Z a ka x0 x1 x2 h0 n0) := by
  refine MetFree.of_bodySF (plainFor_of_name pn_3) hisR ?_
  intro p e s mt args below meth cd s₁ Bd hml0 hP hK
  obtain ⟨hA, hZ, hh⟩ := hP
  have hx := Bd.exec
  have hby := Bd.bytes
  have hml : cd.maxLocals = 5 := hml0
  have hown : s.vm.findClass "java/lang/StringUTF16" = some mt.cls := findClass_of_methodNamed Bd.named
  have hlk : meth.locks = false := BodyLoose.notSynchronized Bd
  have hrt := Bd.returns
  have X0 : Stand p l e r_utb_2 s mt args below meth cd s₁ [] 0 0 := Stand.of_body Bd
  have e0 : s₁.heap = h0 := by rw [← hh, Bd.state]; rfl
  have N0 := Fr.nil n0
  show Win p e below (Ends s (Q_utb_2 Z a ka x0 x1 x2 h0 n0) r_utb_2.cells r_utb_2.slots) s₁ (entryFrame mt args 5)
  rw [hA, ef_utb_2]
  obtain ⟨cs, u, S0, hcs, S1, hu, S2, S3, S4⟩ := id ST
  refine w_iloadN X0 hx hby d23_0 rfl ?_
  show Win _ _ _ _ s₁ (mkF mt 1 #[.val (.ref a), .val (.int (0 : Int32)), .val (.int (2 : Int32)), .unset, .unset] [(.int (2 : Int32))])
  obtain ⟨v143, _, ⟨T143, L143, k143, n143⟩, -, X143, ⟨Lc143, hQ143, l143, rfl, rfl⟩, st143⟩ := Jvm.LawKit.callS X0 hx (y := y_17) hown (mvT hZ (ow hw 256 rfl)) (mvT hZ (ow hw 257 rfl)) (mvT hZ (ow hw 232 rfl)) (mvT hZ (ow hw 258 rfl)) (by decide) (backOf (W := 0) (rm_nbf_2 l Z a0 hw []  h0 n0 Z0 ) hZ (ow hw 258 rfl) (ow hw 232 rfl) (by decide) (by decide)) (g := (mkF mt 1 #[.val (.ref a), .val (.int (0 : Int32)), .val (.int (2 : Int32)), .unset, .unset] [(.int (2 : Int32))])) rfl (by rw [hml]; rfl) (argsL := [(.int (2 : Int32))]) (rest := []) (lenOf pd_14 rfl) rfl (wz rfl) (hb hby d23_1) (fun _ _ => ⟨rfl, e0, (by decide : 0 + 1 ≤ _), (by decide : 0 + 4 ≤ _)⟩)
  replace X143 : Stand p l e _ s mt args below meth cd T143 L143 1 4 := X143
  obtain ⟨h143, e143⟩ : ∃ z, T143.heap = z := ⟨_, rfl⟩
  rw [e143] at hQ143
  obtain ⟨bb, rfl, Nq143, K143, gb143, sb143, kb, V143, -⟩ := hQ143
  have N143 := own_fr (L := L143) l143 N0 Nq143
  have f144_9 := O.keep K143 all0
  have f144_10 := VA.keep K143 nin0
  have Z145 : n0 ≤ h143.size := Nat.le_trans Z0 K143.1
  have K146 : Keep h0 h143 [] := Keep.trans (Keep.refl h0 []) K143 all0
  have ne147 : a ≠ bb := Nat.ne_of_lt (Nat.lt_of_lt_of_le VA.lt sb143)
  refine Win.st ?_ st143
  show Win _ _ _ _ T143 (mkF mt 4 #[.val (.ref a), .val (.int (0 : Int32)), .val (.int (2 : Int32)), .unset, .unset] [(.ref bb)])
  refine Win.st ?_ (fun tq kq => XS.astoreN X143.here hx rfl (hb hby d23_4) rfl rfl (l' := #[.val (.ref a), .val (.int (0 : Int32)), .val (.int (2 : Int32)), .val (.ref bb), .unset]) rfl kq)
  refine w_iconst X143 hx hby d23_5 ?_
  refine Win.st ?_ (fun tq kq => XS.istore X143.here hx rfl (hb hby d23_6) rfl (l' := #[.val (.ref a), .val (.int (0 : Int32)), .val (.int (2 : Int32)), .val (.ref bb), .val (.int (0 : Int32))]) rfl kq)
  refine w_iload X143 hx hby d23_8 rfl ?_
  refine w_iloadN X143 hx hby d23_10 rfl ?_
  refine Win.st ?_ (fun tq kq => XS.icmpNo X143.here hx rfl (hb hby d23_11) rfl (tlt (by decide : (0 : Int32) < (2 : Int32))).2.1 kq)
  refine w_aloadN X143 hx hby d23_14 rfl rfl ?_
  refine w_iload X143 hx hby d23_15 rfl ?_
  refine w_aloadN X143 hx hby d23_17 rfl rfl ?_
  refine w_iloadN X143 hx hby d23_18 rfl ?_
  show Win _ _ _ _ T143 (mkF mt 19 #[.val (.ref a), .val (.int (0 : Int32)), .val (.int (2 : Int32)), .val (.ref bb), .val (.int (0 : Int32))] [(.int (0 : Int32)), (.ref a), (.int (0 : Int32)), (.ref bb)])
  refine Win.st ?_ (own_cald (g := (mkF mt 19 #[.val (.ref a), .val (.int (0 : Int32)), .val (.int (2 : Int32)), .val (.ref bb), .val (.int (0 : Int32))] [(.int (0 : Int32)), (.ref a), (.int (0 : Int32)), (.ref bb)])) X143 hx hZ e143 f144_10 (j := (0 : Int32)) (v := (.int x0)) (by decide) (by decide) rfl rfl rfl (hb hby d23_19))
  show Win _ _ _ _ T143 (mkF mt 20 #[.val (.ref a), .val (.int (0 : Int32)), .val (.int (2 : Int32)), .val (.ref bb), .val (.int (0 : Int32))] [(.int x0), (.int (0 : Int32)), (.ref bb)])
  obtain ⟨v148, _, ⟨T148, L148, k148, n148⟩, -, X148, ⟨Lc148, hQ148, l148, rfl, rfl⟩, st148⟩ := Jvm.LawKit.callS X143 hx (y := y_11) hown (mvT hZ (ow hw 263 rfl)) (mvT hZ (ow hw 264 rfl)) (mvT hZ (ow hw 232 rfl)) (mvT hZ (ow hw 265 rfl)) (by decide) (backOf (W := 0) (rm_putc l Z a0 hw [] bb x0 kb 4 [(.int (0 : Int32)), (.int (0 : Int32)), (.int (0 : Int32)), (.int (0 : Int32))] 0 h143 n0 Z145 V143 (by decide) (by decide) (by decide) (by simp) gb143 ST f144_9) hZ (ow hw 265 rfl) (ow hw 232 rfl) (by decide) (by decide)) (g := (mkF mt 20 #[.val (.ref a), .val (.int (0 : Int32)), .val (.int (2 : Int32)), .val (.ref bb), .val (.int (0 : Int32))] [(.int x0), (.int (0 : Int32)), (.ref bb)])) rfl (by rw [hml]; rfl) (argsL := [(.ref bb), (.int (0 : Int32)), (.int x0)]) (rest := []) (lenOf pd_10 rfl) rfl (wz rfl) (hb hby d23_20) (fun _ _ => ⟨rfl, e143, (by decide : 1 + 0 ≤ _), (by decide : 4 + 0 ≤ _)⟩)
  replace X148 : Stand p l e _ s mt args below meth cd T148 L148 1 4 := X148
  obtain ⟨h148, e148⟩ : ∃ z, T148.heap = z := ⟨_, rfl⟩
  rw [e148] at hQ148
  obtain ⟨rfl, Nq148, K148, V148⟩ := hQ148
  have N148 := own_fr (L := L148) l148 N143 Nq148
  have f149_35 := f144_9.keep K148 (allS gb143 all0)
  have f149_36 := f144_10.keep K148 (ninS ne147 nin0)
  have Z150 : n0 ≤ h148.size := Nat.le_trans Z145 K148.1
  have K151 : Keep h0 h148 [] := Keep.trans K146 K148 (allS (Or.inr sb143) all0)
  replace V148 : Arv Z h148 bb kb .byte (4 : Int32) [(.int (own_b0 x0)), (.int (own_b1 x0)), (.int (0 : Int32)), (.int (0 : Int32))] (.int (0 : Int32)) := V148
  refine Win.st ?_ st148
  show Win _ _ _ _ T148 (mkF mt 23 #[.val (.ref a), .val (.int (0 : Int32)), .val (.int (2 : Int32)), .val (.ref bb), .val (.int (0 : Int32))] [])
  refine Win.st ?_ (fun tq kq => XS.iinc X148.here hx rfl (hb hby d23_23) rfl (l' := #[.val (.ref a), .val (.int (1 : Int32)), .val (.int (2 : Int32)), .val (.ref bb), .val (.int (0 : Int32))]) rfl kq)
  show Win _ _ _ _ T148 (mkF mt 26 #[.val (.ref a), .val (.int (1 : Int32)), .val (.int (2 : Int32)), .val (.ref bb), .val (.int (0 : Int32))] [])
  refine Win.st ?_ (fun tq kq => XS.iinc X148.here hx rfl (hb hby d23_26) rfl (l' := #[.val (.ref a), .val (.int (1 : Int32)), .val (.int (2 : Int32)), .val (.ref bb), .val (.int (1 : Int32))]) rfl kq)
  show Win _ _ _ _ T148 (mkF mt 29 #[.val (.ref a), .val (.int (1 : Int32)), .val (.int (2 : Int32)), .val (.ref bb), .val (.int (1 : Int32))] [])
  refine Win.st ?_ (fun tq kq => XS.goto X148.here hx rfl (pc0 := 29) (pc' := 8) rfl (hb hby d23_29) (by decide) (by decide) kq)
  refine w_iload X148 hx hby d23_8 rfl ?_
  refine w_iloadN X148 hx hby d23_10 rfl ?_
  refine Win.st ?_ (fun tq kq => XS.icmpNo X148.here hx rfl (hb hby d23_11) rfl (tlt (by decide : (1 : Int32) < (2 : Int32))).2.1 kq)
  refine w_aloadN X148 hx hby d23_14 rfl rfl ?_
  refine w_iload X148 hx hby d23_15 rfl ?_
  refine w_aloadN X148 hx hby d23_17 rfl rfl ?_
  refine w_iloadN X148 hx hby d23_18 rfl ?_
  show Win _ _ _ _ T148 (mkF mt 19 #[.val (.ref a), .val (.int (1 : Int32)), .val (.int (2 : Int32)), .val (.ref bb), .val (.int (1 : Int32))] [(.int (1 : Int32)), (.ref a), (.int (1 : Int32)), (.ref bb)])
  refine Win.st ?_ (own_cald (g := (mkF mt 19 #[.val (.ref a), .val (.int (1 : Int32)), .val (.int (2 : Int32)), .val (.ref bb), .val (.int (1 : Int32))] [(.int (1 : Int32)), (.ref a), (.int (1 : Int32)), (.ref bb)])) X148 hx hZ e148 f149_36 (j := (1 : Int32)) (v := (.int x1)) (by decide) (by decide) rfl rfl rfl (hb hby d23_19))
  show Win _ _ _ _ T148 (mkF mt 20 #[.val (.ref a), .val (.int (1 : Int32)), .val (.int (2 : Int32)), .val (.ref bb), .val (.int (1 : Int32))] [(.int x1), (.int (1 : Int32)), (.ref bb)])
  obtain ⟨v152, _, ⟨T152, L152, k152, n152⟩, -, X152, ⟨Lc152, hQ152, l152, rfl, rfl⟩, st152⟩ := Jvm.LawKit.callS X148 hx (y := y_11) hown (mvT hZ (ow hw 263 rfl)) (mvT hZ (ow hw 264 rfl)) (mvT hZ (ow hw 232 rfl)) (mvT hZ (ow hw 265 rfl)) (by decide) (backOf (W := 0) (rm_putc l Z a0 hw [] bb x1 kb 4 [(.int (own_b0 x0)), (.int (own_b1 x0)), (.int (0 : Int32)), (.int (0 : Int32))] 1 h148 n0 Z150 V148 (by decide) (by decide) (by decide) (by simp) gb143 ST f149_35) hZ (ow hw 265 rfl) (ow hw 232 rfl) (by decide) (by decide)) (g := (mkF mt 20 #[.val (.ref a), .val (.int (1 : Int32)), .val (.int (2 : Int32)), .val (.ref bb), .val (.int (1 : Int32))] [(.int x1), (.int (1 : Int32)), (.ref bb)])) rfl (by rw [hml]; rfl) (argsL := [(.ref bb), (.int (1 : Int32)), (.int x1)]) (rest := []) (lenOf pd_10 rfl) rfl (wz rfl) (hb hby d23_20) (fun _ _ => ⟨rfl, e148, (by decide : 1 + 0 ≤ _), (by decide : 4 + 0 ≤ _)⟩)
  replace X152 : Stand p l e _ s mt args below meth cd T152 L152 1 4 := X152
  obtain ⟨h152, e152⟩ : ∃ z, T152.heap = z := ⟨_, rfl⟩
  rw [e152] at hQ152
  obtain ⟨rfl, Nq152, K152, V152⟩ := hQ152
  have N152 := own_fr (L := L152) l152 N148 Nq152
  have K155 : Keep h0 h152 [] := Keep.trans K151 K152 (allS (Or.inr sb143) all0)
  replace V152 : Arv Z h152 bb kb .byte (4 : Int32) [(.int (own_b0 x0)), (.int (own_b1 x0)), (.int (own_b0 x1)), (.int (own_b1 x1))] (.int (0 : Int32)) := V152
  refine Win.st ?_ st152
  show Win _ _ _ _ T152 (mkF mt 23 #[.val (.ref a), .val (.int (1 : Int32)), .val (.int (2 : Int32)), .val (.ref bb), .val (.int (1 : Int32))] [])
  refine Win.st ?_ (fun tq kq => XS.iinc X152.here hx rfl (hb hby d23_23) rfl (l' := #[.val (.ref a), .val (.int (2 : Int32)), .val (.int (2 : Int32)), .val (.ref bb), .val (.int (1 : Int32))]) rfl kq)
  show Win _ _ _ _ T152 (mkF mt 26 #[.val (.ref a), .val (.int (2 : Int32)), .val (.int (2 : Int32)), .val (.ref bb), .val (.int (1 : Int32))] [])
  refine Win.st ?_ (fun tq kq => XS.iinc X152.here hx rfl (hb hby d23_26) rfl (l' := #[.val (.ref a), .val (.int (2 : Int32)), .val (.int (2 : Int32)), .val (.ref bb), .val (.int (2 : Int32))]) rfl kq)
  show Win _ _ _ _ T152 (mkF mt 29 #[.val (.ref a), .val (.int (2 : Int32)), .val (.int (2 : Int32)), .val (.ref bb), .val (.int (2 : Int32))] [])
  refine Win.st ?_ (fun tq kq => XS.goto X152.here hx rfl (pc0 := 29) (pc' := 8) rfl (hb hby d23_29) (by decide) (by decide) kq)
  refine w_iload X152 hx hby d23_8 rfl ?_
  refine w_iloadN X152 hx hby d23_10 rfl ?_
  refine Win.st ?_ (fun tq kq => XS.icmpYes X152.here hx rfl (pc0 := 11) (pc' := 32) rfl (hb hby d23_11) rfl (flt (Int32.lt_irrefl)).2.1 (by decide) (by decide) kq)
  refine w_aloadN X152 hx hby d23_32 rfl rfl ?_
  show Win _ _ _ _ T152 (mkF mt 33 #[.val (.ref a), .val (.int (2 : Int32)), .val (.int (2 : Int32)), .val (.ref bb), .val (.int (2 : Int32))] [(.ref bb)])
  exact Win.ret X152 hx hlk e152 hrt rfl (Or.inr (Or.inr (Or.inr (Or.inr ⟨rfl, rfl, rfl⟩)))) (hb hby d23_33) (by decide) (by decide) ⟨_, rfl, N152, K155, gb143, sb143, _, V152⟩
abbrev k24 : ByteArray := jdk_52_method_21_code
theorem d24_0 : decode k24 0 = .ok (.iconst 0, 1) := by decide +kernel
theorem d24_1 : decode k24 1 = .ok (.istore 5, 2) := by decide +kernel
theorem d24_3 : decode k24 3 = .ok (.iload 5, 2) := by decide +kernel
theorem d24_5 : decode k24 5 = .ok (.iload 4, 2) := by decide +kernel
theorem d24_7 : decode k24 7 = .ok (.if_icmp .ge 37, 3) := by decide +kernel
theorem d24_10 : decode k24 10 = .ok (.aload_n 0, 1) := by decide +kernel
theorem d24_11 : decode k24 11 = .ok (.iload_n 1, 1) := by decide +kernel
theorem d24_12 : decode k24 12 = .ok (.caload, 1) := by decide +kernel
theorem d24_13 : decode k24 13 = .ok (.istore 6, 2) := by decide +kernel
theorem d24_15 : decode k24 15 = .ok (.iload 6, 2) := by decide +kernel
theorem d24_17 : decode k24 17 = .ok (.sipush 255, 3) := by decide +kernel
theorem d24_20 : decode k24 20 = .ok (.if_icmp .le 6, 3) := by decide +kernel
theorem d24_23 : decode k24 23 = .ok (.iload 5, 2) := by decide +kernel
theorem d24_25 : decode k24 25 = .ok (.ireturn, 1) := by decide +kernel
theorem d24_26 : decode k24 26 = .ok (.aload_n 2, 1) := by decide +kernel
theorem d24_27 : decode k24 27 = .ok (.iload_n 3, 1) := by decide +kernel
theorem d24_28 : decode k24 28 = .ok (.iload 6, 2) := by decide +kernel
theorem d24_30 : decode k24 30 = .ok (.i2b, 1) := by decide +kernel
theorem d24_31 : decode k24 31 = .ok (.bastore, 1) := by decide +kernel
theorem d24_32 : decode k24 32 = .ok (.iinc 1 1, 3) := by decide +kernel
theorem d24_35 : decode k24 35 = .ok (.iinc 3 1, 3) := by decide +kernel
theorem d24_38 : decode k24 38 = .ok (.iinc 5 1, 3) := by decide +kernel
theorem d24_41 : decode k24 41 = .ok (.goto (-38), 3) := by decide +kernel
theorem d24_44 : decode k24 44 = .ok (.iload 4, 2) := by decide +kernel
theorem d24_46 : decode k24 46 = .ok (.ireturn, 1) := by decide +kernel
abbrev y_24 : MethodName := ⟨"java/lang/StringUTF16", "compress", "([CI[BII)I"⟩
abbrev r_cmp5_2 : Room := { frames := 0, cells := 0, slots := 0, locals := 0 }
theorem ef_cmp5_2 (mt : MethodId) (a : Addr) (b : Addr) : entryFrame mt #[(.ref a), (.int (0 : Int32)), (.ref b), (.int (0 : Int32)), (.int (2 : Int32))] 7 = mkF mt 0 #[.val (.ref a), .val (.int (0 : Int32)), .val (.ref b), .val (.int (0 : Int32)), .val (.int (2 : Int32)), .unset, .unset] [] := by first | (simp [entryFrame, mkF, argsToLocals, Value.category]; done) | rfl
def Q_cmp5_2 (Z : State) (a : Addr) (b : Addr) (ka : ClassId) (kb : ClassId) (x0 : Int32) (x1 : Int32) (x2 : Int32) (h0 : Heap) (n0 : Nat) (v : Option Value) (h : Heap) (L : List Loc) : Prop := ∃ r : Int32, v = some (.int r) ∧ Fr n0 L ∧ Keep h0 h [b] ∧ ((r = (2 : Int32) ∧ (¬ (255 : Int32) < x0 ∧ ¬ (255 : Int32) < x1) ∧ Arv Z h b kb .byte (2 : Int32) [(.int (x0.toInt8.toInt32)), (.int (x1.toInt8.toInt32))] (.int (0 : Int32))) ∨ (r = (0 : Int32) ∧ (255 : Int32) < x0) ∨ (r = (1 : Int32) ∧ (255 : Int32) < x1))
theorem rm_cmp5_2 (l : Launch) (Z : State) (a0 : Array Value) (hw : ∀ d ∈ tables_1, d.before a0 Z = true) (ws : List Jvm.Cond) (a : Addr) (b : Addr) (ka : ClassId) (kb : ClassId) (x0 : Int32) (x1 : Int32) (x2 : Int32) (h0 : Heap) (n0 : Nat) (Z0 : n0 ≤ h0.size) (VA : Arv Z h0 a ka .char (2 : Int32) [(.int x0), (.int x1)] (.int (0 : Int32))) (VB : Arv Z h0 b kb .byte (2 : Int32) [(.int (0 : Int32)), (.int (0 : Int32))] (.int (0 : Int32))) (gb : n0 ≤ b) (nab : a ≠ b) :
    Met l y_24 k24 7 (some .int) ws r_cmp5_2 #[(.ref a), (.int (0 : Int32)), (.ref b), (.int (0 : Int32)), (.int (2 : Int32))] Z h0 (Q_cmp5_2 Z a b ka kb x0 x1 x2 h0 n0) := by
  refine MetFree.of_bodySF (plainFor_of_name pn_3) hisR ?_
  intro p e s mt args below meth cd s₁ Bd hml0 hP hK
  obtain ⟨hA, hZ, hh⟩ := hP
  have hx := Bd.exec
  have hby := Bd.bytes
  have hml : cd.maxLocals = 7 := hml0
  have hlk : meth.locks = false := BodyLoose.notSynchronized Bd
  have hrt := Bd.returns
  have X0 : Stand p l e r_cmp5_2 s mt args below meth cd s₁ [] 0 0 := Stand.of_body Bd
  have e0 : s₁.heap = h0 := by rw [← hh, Bd.state]; rfl
  have N0 := Fr.nil n0
  show Win p e below (Ends s (Q_cmp5_2 Z a b ka kb x0 x1 x2 h0 n0) r_cmp5_2.cells r_cmp5_2.slots) s₁ (entryFrame mt args 7)
  rw [hA, ef_cmp5_2]
  refine w_iconst X0 hx hby d24_0 ?_
  refine Win.st ?_ (fun tq kq => XS.istore X0.here hx rfl (hb hby d24_1) rfl (l' := #[.val (.ref a), .val (.int (0 : Int32)), .val (.ref b), .val (.int (0 : Int32)), .val (.int (2 : Int32)), .val (.int (0 : Int32)), .unset]) rfl kq)
  refine w_iload X0 hx hby d24_3 rfl ?_
  refine w_iload X0 hx hby d24_5 rfl ?_
  refine Win.st ?_ (fun tq kq => XS.icmpNo X0.here hx rfl (hb hby d24_7) rfl (tlt (by decide : (0 : Int32) < (2 : Int32))).2.1 kq)
  refine w_aloadN X0 hx hby d24_10 rfl rfl ?_
  refine w_iloadN X0 hx hby d24_11 rfl ?_
  show Win _ _ _ _ s₁ (mkF mt 12 #[.val (.ref a), .val (.int (0 : Int32)), .val (.ref b), .val (.int (0 : Int32)), .val (.int (2 : Int32)), .val (.int (0 : Int32)), .unset] [(.int (0 : Int32)), (.ref a)])
  refine Win.st ?_ (own_cald (g := (mkF mt 12 #[.val (.ref a), .val (.int (0 : Int32)), .val (.ref b), .val (.int (0 : Int32)), .val (.int (2 : Int32)), .val (.int (0 : Int32)), .unset] [(.int (0 : Int32)), (.ref a)])) X0 hx hZ e0 VA (j := (0 : Int32)) (v := (.int x0)) (by decide) (by decide) rfl rfl rfl (hb hby d24_12))
  show Win _ _ _ _ s₁ (mkF mt 13 #[.val (.ref a), .val (.int (0 : Int32)), .val (.ref b), .val (.int (0 : Int32)), .val (.int (2 : Int32)), .val (.int (0 : Int32)), .unset] [(.int x0)])
  refine Win.st ?_ (fun tq kq => XS.istore X0.here hx rfl (hb hby d24_13) rfl (l' := #[.val (.ref a), .val (.int (0 : Int32)), .val (.ref b), .val (.int (0 : Int32)), .val (.int (2 : Int32)), .val (.int (0 : Int32)), .val (.int x0)]) rfl kq)
  refine w_iload X0 hx hby d24_15 rfl ?_
  refine w_sipush X0 hx hby d24_17 ?_
  by_cases hc20 : (255 : Int32) < x0
  · refine Win.st ?_ (fun tq kq => XS.icmpNo X0.here hx rfl (hb hby d24_20) rfl (tlt hc20).2.2.2 kq)
    refine w_iload X0 hx hby d24_23 rfl ?_
    show Win _ _ _ _ s₁ (mkF mt 25 #[.val (.ref a), .val (.int (0 : Int32)), .val (.ref b), .val (.int (0 : Int32)), .val (.int (2 : Int32)), .val (.int (0 : Int32)), .val (.int x0)] [(.int (0 : Int32))])
    exact Win.ret X0 hx hlk e0 hrt rfl (Or.inl ⟨rfl, Or.inl rfl, _, rfl⟩) (hb hby d24_25) (by decide) (by decide) ⟨_, rfl, N0, (Keep.refl h0 [b]), Or.inr (Or.inl ⟨rfl, hc20⟩)⟩
  · refine Win.st ?_ (fun tq kq => XS.icmpYes X0.here hx rfl (pc0 := 20) (pc' := 26) rfl (hb hby d24_20) rfl (flt hc20).2.2.2 (by decide) (by decide) kq)
    refine w_aloadN X0 hx hby d24_26 rfl rfl ?_
    refine w_iloadN X0 hx hby d24_27 rfl ?_
    refine w_iload X0 hx hby d24_28 rfl ?_
    refine Win.st ?_ (fun tq kq => XS.i2b X0.here hx rfl (hb hby d24_30) rfl kq)
    show Win _ _ _ _ s₁ (mkF mt 31 #[.val (.ref a), .val (.int (0 : Int32)), .val (.ref b), .val (.int (0 : Int32)), .val (.int (2 : Int32)), .val (.int (0 : Int32)), .val (.int x0)] [(.int (x0.toInt8.toInt32)), (.int (0 : Int32)), (.ref b)])
    obtain ⟨T156, h156, L156, X156, N156, e156, kp156, V156, st156⟩ := own_bast (g := (mkF mt 31 #[.val (.ref a), .val (.int (0 : Int32)), .val (.ref b), .val (.int (0 : Int32)), .val (.int (2 : Int32)), .val (.int (0 : Int32)), .val (.int x0)] [(.int (x0.toInt8.toInt32)), (.int (0 : Int32)), (.ref b)])) X0 hx hZ e0 N0 gb VB (j := (0 : Int32)) (by decide) (by decide) (i := 0) rfl (by simp) rfl rfl (hb hby d24_31)
    rw [own_b8] at V156
    replace V156 : Arv Z h156 b kb .byte (2 : Int32) ([(.int (x0.toInt8.toInt32)), (.int (0 : Int32))]) (.int (0 : Int32)) := V156
    have f157_27 := VA.keep kp156 (ninS nab nin0)
    have K159 : Keep h0 h156 [b] := Keep.trans (Keep.refl h0 [b]) kp156 (allS (Or.inl (List.mem_of_getElem? (i := 0) rfl)) all0)
    refine Win.st ?_ st156
    show Win _ _ _ _ T156 (mkF mt 32 #[.val (.ref a), .val (.int (0 : Int32)), .val (.ref b), .val (.int (0 : Int32)), .val (.int (2 : Int32)), .val (.int (0 : Int32)), .val (.int x0)] [])
    refine Win.st ?_ (fun tq kq => XS.iinc X156.here hx rfl (hb hby d24_32) rfl (l' := #[.val (.ref a), .val (.int (1 : Int32)), .val (.ref b), .val (.int (0 : Int32)), .val (.int (2 : Int32)), .val (.int (0 : Int32)), .val (.int x0)]) rfl kq)
    show Win _ _ _ _ T156 (mkF mt 35 #[.val (.ref a), .val (.int (1 : Int32)), .val (.ref b), .val (.int (0 : Int32)), .val (.int (2 : Int32)), .val (.int (0 : Int32)), .val (.int x0)] [])
    refine Win.st ?_ (fun tq kq => XS.iinc X156.here hx rfl (hb hby d24_35) rfl (l' := #[.val (.ref a), .val (.int (1 : Int32)), .val (.ref b), .val (.int (1 : Int32)), .val (.int (2 : Int32)), .val (.int (0 : Int32)), .val (.int x0)]) rfl kq)
    show Win _ _ _ _ T156 (mkF mt 38 #[.val (.ref a), .val (.int (1 : Int32)), .val (.ref b), .val (.int (1 : Int32)), .val (.int (2 : Int32)), .val (.int (0 : Int32)), .val (.int x0)] [])
    refine Win.st ?_ (fun tq kq => XS.iinc X156.here hx rfl (hb hby d24_38) rfl (l' := #[.val (.ref a), .val (.int (1 : Int32)), .val (.ref b), .val (.int (1 : Int32)), .val (.int (2 : Int32)), .val (.int (1 : Int32)), .val (.int x0)]) rfl kq)
    show Win _ _ _ _ T156 (mkF mt 41 #[.val (.ref a), .val (.int (1 : Int32)), .val (.ref b), .val (.int (1 : Int32)), .val (.int (2 : Int32)), .val (.int (1 : Int32)), .val (.int x0)] [])
    refine Win.st ?_ (fun tq kq => XS.goto X156.here hx rfl (pc0 := 41) (pc' := 3) rfl (hb hby d24_41) (by decide) (by decide) kq)
    refine w_iload X156 hx hby d24_3 rfl ?_
    refine w_iload X156 hx hby d24_5 rfl ?_
    refine Win.st ?_ (fun tq kq => XS.icmpNo X156.here hx rfl (hb hby d24_7) rfl (tlt (by decide : (1 : Int32) < (2 : Int32))).2.1 kq)
    refine w_aloadN X156 hx hby d24_10 rfl rfl ?_
    refine w_iloadN X156 hx hby d24_11 rfl ?_
    show Win _ _ _ _ T156 (mkF mt 12 #[.val (.ref a), .val (.int (1 : Int32)), .val (.ref b), .val (.int (1 : Int32)), .val (.int (2 : Int32)), .val (.int (1 : Int32)), .val (.int x0)] [(.int (1 : Int32)), (.ref a)])
    refine Win.st ?_ (own_cald (g := (mkF mt 12 #[.val (.ref a), .val (.int (1 : Int32)), .val (.ref b), .val (.int (1 : Int32)), .val (.int (2 : Int32)), .val (.int (1 : Int32)), .val (.int x0)] [(.int (1 : Int32)), (.ref a)])) X156 hx hZ e156 f157_27 (j := (1 : Int32)) (v := (.int x1)) (by decide) (by decide) rfl rfl rfl (hb hby d24_12))
    show Win _ _ _ _ T156 (mkF mt 13 #[.val (.ref a), .val (.int (1 : Int32)), .val (.ref b), .val (.int (1 : Int32)), .val (.int (2 : Int32)), .val (.int (1 : Int32)), .val (.int x0)] [(.int x1)])
    refine Win.st ?_ (fun tq kq => XS.istore X156.here hx rfl (hb hby d24_13) rfl (l' := #[.val (.ref a), .val (.int (1 : Int32)), .val (.ref b), .val (.int (1 : Int32)), .val (.int (2 : Int32)), .val (.int (1 : Int32)), .val (.int x1)]) rfl kq)
    refine w_iload X156 hx hby d24_15 rfl ?_
    refine w_sipush X156 hx hby d24_17 ?_
    by_cases hc20_160 : (255 : Int32) < x1
    · refine Win.st ?_ (fun tq kq => XS.icmpNo X156.here hx rfl (hb hby d24_20) rfl (tlt hc20_160).2.2.2 kq)
      refine w_iload X156 hx hby d24_23 rfl ?_
      show Win _ _ _ _ T156 (mkF mt 25 #[.val (.ref a), .val (.int (1 : Int32)), .val (.ref b), .val (.int (1 : Int32)), .val (.int (2 : Int32)), .val (.int (1 : Int32)), .val (.int x1)] [(.int (1 : Int32))])
      exact Win.ret X156 hx hlk e156 hrt rfl (Or.inl ⟨rfl, Or.inl rfl, _, rfl⟩) (hb hby d24_25) (by decide) (by decide) ⟨_, rfl, N156, K159, Or.inr (Or.inr (⟨rfl, hc20_160⟩))⟩
    · refine Win.st ?_ (fun tq kq => XS.icmpYes X156.here hx rfl (pc0 := 20) (pc' := 26) rfl (hb hby d24_20) rfl (flt hc20_160).2.2.2 (by decide) (by decide) kq)
      refine w_aloadN X156 hx hby d24_26 rfl rfl ?_
      refine w_iloadN X156 hx hby d24_27 rfl ?_
      refine w_iload X156 hx hby d24_28 rfl ?_
      refine Win.st ?_ (fun tq kq => XS.i2b X156.here hx rfl (hb hby d24_30) rfl kq)
      show Win _ _ _ _ T156 (mkF mt 31 #[.val (.ref a), .val (.int (1 : Int32)), .val (.ref b), .val (.int (1 : Int32)), .val (.int (2 : Int32)), .val (.int (1 : Int32)), .val (.int x1)] [(.int (x1.toInt8.toInt32)), (.int (1 : Int32)), (.ref b)])
      obtain ⟨T161, h161, L161, X161, N161, e161, kp161, V161, st161⟩ := own_bast (g := (mkF mt 31 #[.val (.ref a), .val (.int (1 : Int32)), .val (.ref b), .val (.int (1 : Int32)), .val (.int (2 : Int32)), .val (.int (1 : Int32)), .val (.int x1)] [(.int (x1.toInt8.toInt32)), (.int (1 : Int32)), (.ref b)])) X156 hx hZ e156 N156 gb V156 (j := (1 : Int32)) (by decide) (by decide) (i := 1) rfl (by simp) rfl rfl (hb hby d24_31)
      rw [own_b8] at V161
      replace V161 : Arv Z h161 b kb .byte (2 : Int32) ([(.int (x0.toInt8.toInt32)), (.int (x1.toInt8.toInt32))]) (.int (0 : Int32)) := V161
      have K164 : Keep h0 h161 [b] := Keep.trans K159 kp161 (allS (Or.inl (List.mem_of_getElem? (i := 0) rfl)) all0)
      refine Win.st ?_ st161
      show Win _ _ _ _ T161 (mkF mt 32 #[.val (.ref a), .val (.int (1 : Int32)), .val (.ref b), .val (.int (1 : Int32)), .val (.int (2 : Int32)), .val (.int (1 : Int32)), .val (.int x1)] [])
      refine Win.st ?_ (fun tq kq => XS.iinc X161.here hx rfl (hb hby d24_32) rfl (l' := #[.val (.ref a), .val (.int (2 : Int32)), .val (.ref b), .val (.int (1 : Int32)), .val (.int (2 : Int32)), .val (.int (1 : Int32)), .val (.int x1)]) rfl kq)
      show Win _ _ _ _ T161 (mkF mt 35 #[.val (.ref a), .val (.int (2 : Int32)), .val (.ref b), .val (.int (1 : Int32)), .val (.int (2 : Int32)), .val (.int (1 : Int32)), .val (.int x1)] [])
      refine Win.st ?_ (fun tq kq => XS.iinc X161.here hx rfl (hb hby d24_35) rfl (l' := #[.val (.ref a), .val (.int (2 : Int32)), .val (.ref b), .val (.int (2 : Int32)), .val (.int (2 : Int32)), .val (.int (1 : Int32)), .val (.int x1)]) rfl kq)
      show Win _ _ _ _ T161 (mkF mt 38 #[.val (.ref a), .val (.int (2 : Int32)), .val (.ref b), .val (.int (2 : Int32)), .val (.int (2 : Int32)), .val (.int (1 : Int32)), .val (.int x1)] [])
      refine Win.st ?_ (fun tq kq => XS.iinc X161.here hx rfl (hb hby d24_38) rfl (l' := #[.val (.ref a), .val (.int (2 : Int32)), .val (.ref b), .val (.int (2 : Int32)), .val (.int (2 : Int32)), .val (.int (2 : Int32)), .val (.int x1)]) rfl kq)
      show Win _ _ _ _ T161 (mkF mt 41 #[.val (.ref a), .val (.int (2 : Int32)), .val (.ref b), .val (.int (2 : Int32)), .val (.int (2 : Int32)), .val (.int (2 : Int32)), .val (.int x1)] [])
      refine Win.st ?_ (fun tq kq => XS.goto X161.here hx rfl (pc0 := 41) (pc' := 3) rfl (hb hby d24_41) (by decide) (by decide) kq)
      refine w_iload X161 hx hby d24_3 rfl ?_
      refine w_iload X161 hx hby d24_5 rfl ?_
      refine Win.st ?_ (fun tq kq => XS.icmpYes X161.here hx rfl (pc0 := 7) (pc' := 44) rfl (hb hby d24_7) rfl (flt (Int32.lt_irrefl)).2.1 (by decide) (by decide) kq)
      refine w_iload X161 hx hby d24_44 rfl ?_
      show Win _ _ _ _ T161 (mkF mt 46 #[.val (.ref a), .val (.int (2 : Int32)), .val (.ref b), .val (.int (2 : Int32)), .val (.int (2 : Int32)), .val (.int (2 : Int32)), .val (.int x1)] [(.int (2 : Int32))])
      exact Win.ret X161 hx hlk e161 hrt rfl (Or.inl ⟨rfl, Or.inl rfl, _, rfl⟩) (hb hby d24_46) (by decide) (by decide) ⟨_, rfl, N161, K164, Or.inl ⟨rfl, ⟨hc20, hc20_160⟩, V161⟩⟩
abbrev k25 : ByteArray := jdk_52_method_16_code
theorem d25_0 : decode k25 0 = .ok (.iload_n 2, 1) := by decide +kernel
theorem d25_1 : decode k25 1 = .ok (.newarray .byte, 2) := by decide +kernel
theorem d25_3 : decode k25 3 = .ok (.astore_n 3, 1) := by decide +kernel
theorem d25_4 : decode k25 4 = .ok (.aload_n 0, 1) := by decide +kernel
theorem d25_5 : decode k25 5 = .ok (.iload_n 1, 1) := by decide +kernel
theorem d25_6 : decode k25 6 = .ok (.aload_n 3, 1) := by decide +kernel
theorem d25_7 : decode k25 7 = .ok (.iconst 0, 1) := by decide +kernel
theorem d25_8 : decode k25 8 = .ok (.iload_n 2, 1) := by decide +kernel
theorem d25_9 : decode k25 9 = .ok (.invokestatic 115, 3) := by decide +kernel
theorem pd_15 : parseMethodDescriptor "([CI[BII)I" = some ⟨[(.array .char), .int, (.array .byte), .int, .int], some .int⟩ := by decide +kernel
theorem d25_12 : decode k25 12 = .ok (.istore 4, 2) := by decide +kernel
theorem d25_14 : decode k25 14 = .ok (.iload 4, 2) := by decide +kernel
theorem d25_16 : decode k25 16 = .ok (.iload_n 2, 1) := by decide +kernel
theorem d25_17 : decode k25 17 = .ok (.if_icmp .eq 40, 3) := by decide +kernel
theorem d25_57 : decode k25 57 = .ok (.aload_n 3, 1) := by decide +kernel
theorem d25_58 : decode k25 58 = .ok (.areturn, 1) := by decide +kernel
theorem d25_20 : decode k25 20 = .ok (.aload_n 0, 1) := by decide +kernel
theorem d25_21 : decode k25 21 = .ok (.iload_n 1, 1) := by decide +kernel
theorem d25_22 : decode k25 22 = .ok (.iload_n 2, 1) := by decide +kernel
theorem d25_23 : decode k25 23 = .ok (.invokestatic 119, 3) := by decide +kernel
theorem pd_16 : parseMethodDescriptor "([CII)[B" = some ⟨[(.array .char), .int, .int], some (.array .byte)⟩ := by decide +kernel
theorem d25_26 : decode k25 26 = .ok (.astore 5, 2) := by decide +kernel
theorem d25_28 : decode k25 28 = .ok (.aload 5, 2) := by decide +kernel
theorem d25_30 : decode k25 30 = .ok (.iload 4, 2) := by decide +kernel
theorem d25_32 : decode k25 32 = .ok (.invokestatic 71, 3) := by decide +kernel
theorem d25_35 : decode k25 35 = .ok (.sipush 255, 3) := by decide +kernel
theorem d25_38 : decode k25 38 = .ok (.if_icmp .gt 16, 3) := by decide +kernel
theorem d25_54 : decode k25 54 = .ok (.aload 5, 2) := by decide +kernel
theorem d25_56 : decode k25 56 = .ok (.areturn, 1) := by decide +kernel
abbrev y_25 : MethodName := ⟨"java/lang/StringUTF16", "compress", "([CII)[B"⟩
abbrev r_cmp3_2 : Room := { frames := 3, cells := 2, slots := 6, locals := 40 }
theorem ef_cmp3_2 (mt : MethodId) (a : Addr) : entryFrame mt #[(.ref a), (.int (0 : Int32)), (.int (2 : Int32))] 6 = mkF mt 0 #[.val (.ref a), .val (.int (0 : Int32)), .val (.int (2 : Int32)), .unset, .unset, .unset] [] := by first | (simp [entryFrame, mkF, argsToLocals, Value.category]; done) | rfl
def Q_cmp3_2 (Z : State) (a : Addr) (ka : ClassId) (x0 : Int32) (x1 : Int32) (x2 : Int32) (h0 : Heap) (n0 : Nat) (v : Option Value) (h : Heap) (L : List Loc) : Prop := ∃ r : Addr, v = some (.ref r) ∧ Fr n0 L ∧ Keep h0 h [] ∧ n0 ≤ r ∧ h0.size ≤ r ∧ ∃ k : ClassId, ((¬ (255 : Int32) < x0 ∧ ¬ (255 : Int32) < x1) ∧ Arv Z h r k .byte (2 : Int32) [(.int (x0.toInt8.toInt32)), (.int (x1.toInt8.toInt32))] (.int (0 : Int32))) ∨ Arv Z h r k .byte (4 : Int32) [(.int (own_b0 x0)), (.int (own_b1 x0)), (.int (own_b0 x1)), (.int (own_b1 x1))] (.int (0 : Int32))
theorem rm_cmp3_2 (l : Launch) (Z : State) (a0 : Array Value) (hw : ∀ d ∈ tables_1, d.before a0 Z = true) (ws : List Jvm.Cond) (a : Addr) (ka : ClassId) (x0 : Int32) (x1 : Int32) (x2 : Int32) (h0 : Heap) (n0 : Nat) (Z0 : n0 ≤ h0.size) (VA : Arv Z h0 a ka .char (2 : Int32) [(.int x0), (.int x1)] (.int (0 : Int32))) (hX0 : own_C x0) (hX1 : own_C x1) (ST : own_St Z) (O : Old Z n0 h0) :
    Met l y_25 k25 6 (some (.array .byte)) ws r_cmp3_2 #[(.ref a), (.int (0 : Int32)), (.int (2 : Int32))] Z h0 (Q_cmp3_2 Z a ka x0 x1 x2 h0 n0) := by
  refine MetFree.of_bodySF (plainFor_of_name pn_3) hisR ?_
  intro p e s mt args below meth cd s₁ Bd hml0 hP hK
  obtain ⟨hA, hZ, hh⟩ := hP
  have hx := Bd.exec
  have hby := Bd.bytes
  have hml : cd.maxLocals = 6 := hml0
  have hown : s.vm.findClass "java/lang/StringUTF16" = some mt.cls := findClass_of_methodNamed Bd.named
  have hlk : meth.locks = false := BodyLoose.notSynchronized Bd
  have hrt := Bd.returns
  have X0 : Stand p l e r_cmp3_2 s mt args below meth cd s₁ [] 0 0 := Stand.of_body Bd
  have e0 : s₁.heap = h0 := by rw [← hh, Bd.state]; rfl
  have N0 := Fr.nil n0
  show Win p e below (Ends s (Q_cmp3_2 Z a ka x0 x1 x2 h0 n0) r_cmp3_2.cells r_cmp3_2.slots) s₁ (entryFrame mt args 6)
  rw [hA, ef_cmp3_2]
  obtain ⟨cs, u, S0, hcs, S1, hu, S2, S3, S4⟩ := id ST
  refine w_iloadN X0 hx hby d25_0 rfl ?_
  obtain ⟨T165, h165, k165, X165, e165, E165, A165, st165⟩ := newP X0 hx hZ (ow hw 19 rfl) e0 (g := (mkF mt 1 #[.val (.ref a), .val (.int (0 : Int32)), .val (.int (2 : Int32)), .unset, .unset, .unset] [(.int (2 : Int32))])) rfl (hb hby d25_1) rfl (by decide) (cap := 2) (by decide) (by decide) (by decide) (by decide)
  obtain ⟨b165, gq165⟩ : ∃ z, z = h0.size := ⟨_, rfl⟩
  rw [← gq165] at A165 st165
  have ne166 : a ≠ b165 := own_new gq165 VA.lt
  have g167 : n0 ≤ b165 := own_newle Z0 gq165
  have z168 : h0.size ≤ b165 := own_newle (Keep.refl h0 []).1 gq165
  have ke165 := own_kext E165
  replace X165 : Stand p l e _ s mt args below meth cd T165 _ 1 2 := X165
  have f169_10 := O.keep ke165 all0
  have f169_11 := VA.keep ke165 nin0
  have Z170 : n0 ≤ h165.size := Nat.le_trans Z0 ke165.1
  have K171 : Keep h0 h165 [] := Keep.trans (Keep.refl h0 []) ke165 all0
  have V165 : Arv Z h165 b165 k165 .byte (2 : Int32) [(.int (0 : Int32)), (.int (0 : Int32))] (.int (0 : Int32)) := (Arv.new A165 (by decide)).pad (pad_rep [] (.int (0 : Int32)) 2)
  refine Win.st ?_ st165
  show Win _ _ _ _ T165 (mkF mt 3 #[.val (.ref a), .val (.int (0 : Int32)), .val (.int (2 : Int32)), .unset, .unset, .unset] [(.ref b165)])
  refine Win.st ?_ (fun tq kq => XS.astoreN X165.here hx rfl (hb hby d25_3) rfl rfl (l' := #[.val (.ref a), .val (.int (0 : Int32)), .val (.int (2 : Int32)), .val (.ref b165), .unset, .unset]) rfl kq)
  refine w_aloadN X165 hx hby d25_4 rfl rfl ?_
  refine w_iloadN X165 hx hby d25_5 rfl ?_
  refine w_aloadN X165 hx hby d25_6 rfl rfl ?_
  refine w_iconst X165 hx hby d25_7 ?_
  refine w_iloadN X165 hx hby d25_8 rfl ?_
  show Win _ _ _ _ T165 (mkF mt 9 #[.val (.ref a), .val (.int (0 : Int32)), .val (.int (2 : Int32)), .val (.ref b165), .unset, .unset] [(.int (2 : Int32)), (.int (0 : Int32)), (.ref b165), (.int (0 : Int32)), (.ref a)])
  obtain ⟨v172, _, ⟨T172, L172, k172, n172⟩, -, X172, ⟨Lc172, hQ172, l172, rfl, rfl⟩, st172⟩ := Jvm.LawKit.callS X165 hx (y := y_24) hown (mvT hZ (ow hw 234 rfl)) (mvT hZ (ow hw 235 rfl)) (mvT hZ (ow hw 232 rfl)) (mvT hZ (ow hw 236 rfl)) (by decide) (backOf (W := 0) (rm_cmp5_2 l Z a0 hw [] a b165 ka k165 x0 x1 x2 h165 n0 Z170 f169_11 V165 g167 ne166) hZ (ow hw 236 rfl) (ow hw 232 rfl) (by decide) (by decide)) (g := (mkF mt 9 #[.val (.ref a), .val (.int (0 : Int32)), .val (.int (2 : Int32)), .val (.ref b165), .unset, .unset] [(.int (2 : Int32)), (.int (0 : Int32)), (.ref b165), (.int (0 : Int32)), (.ref a)])) rfl (by rw [hml]; rfl) (argsL := [(.ref a), (.int (0 : Int32)), (.ref b165), (.int (0 : Int32)), (.int (2 : Int32))]) (rest := []) (lenOf pd_15 rfl) rfl (wz rfl) (hb hby d25_9) (fun _ _ => ⟨rfl, e165, (by decide : 1 + 0 ≤ _), (by decide : 2 + 0 ≤ _)⟩)
  replace X172 : Stand p l e _ s mt args below meth cd T172 L172 1 2 := X172
  obtain ⟨h172, e172⟩ : ∃ z, T172.heap = z := ⟨_, rfl⟩
  rw [e172] at hQ172
  obtain ⟨q5, rfl, Nq172, K172, hor⟩ := hQ172
  have N172 := own_fr (L := L172) l172 N0 Nq172
  have f173_30 := f169_10.keep K172 (allS g167 all0)
  have f173_31 := f169_11.keep K172 (ninS ne166 nin0)
  have Z174 : n0 ≤ h172.size := Nat.le_trans Z170 K172.1
  have K175 : Keep h0 h172 [] := Keep.trans K171 K172 (allS (Or.inr z168) all0)
  refine Win.st ?_ st172
  show Win _ _ _ _ T172 (mkF mt 12 #[.val (.ref a), .val (.int (0 : Int32)), .val (.int (2 : Int32)), .val (.ref b165), .unset, .unset] [(.int q5)])
  rcases hor with ⟨rfl, hall, Vb⟩ | ⟨rfl, hbig⟩ | ⟨rfl, hbig⟩
  · show Win _ _ _ _ T172 (mkF mt 12 #[.val (.ref a), .val (.int (0 : Int32)), .val (.int (2 : Int32)), .val (.ref b165), .unset, .unset] [(.int (2 : Int32))])
    refine Win.st ?_ (fun tq kq => XS.istore X172.here hx rfl (hb hby d25_12) rfl (l' := #[.val (.ref a), .val (.int (0 : Int32)), .val (.int (2 : Int32)), .val (.ref b165), .val (.int (2 : Int32)), .unset]) rfl kq)
    refine w_iload X172 hx hby d25_14 rfl ?_
    refine w_iloadN X172 hx hby d25_16 rfl ?_
    refine Win.st ?_ (fun tq kq => XS.icmpYes X172.here hx rfl (pc0 := 17) (pc' := 57) rfl (hb hby d25_17) rfl (teq (rfl : (2 : Int32) = (2 : Int32))).1 (by decide) (by decide) kq)
    refine w_aloadN X172 hx hby d25_57 rfl rfl ?_
    show Win _ _ _ _ T172 (mkF mt 58 #[.val (.ref a), .val (.int (0 : Int32)), .val (.int (2 : Int32)), .val (.ref b165), .val (.int (2 : Int32)), .unset] [(.ref b165)])
    exact Win.ret X172 hx hlk e172 hrt rfl (Or.inr (Or.inr (Or.inr (Or.inr ⟨rfl, rfl, rfl⟩)))) (hb hby d25_58) (by decide) (by decide) ⟨_, rfl, N172, K175, g167, z168, _, Or.inl ⟨hall, Vb⟩⟩
  · show Win _ _ _ _ T172 (mkF mt 12 #[.val (.ref a), .val (.int (0 : Int32)), .val (.int (2 : Int32)), .val (.ref b165), .unset, .unset] [(.int (0 : Int32))])
    refine Win.st ?_ (fun tq kq => XS.istore X172.here hx rfl (hb hby d25_12) rfl (l' := #[.val (.ref a), .val (.int (0 : Int32)), .val (.int (2 : Int32)), .val (.ref b165), .val (.int (0 : Int32)), .unset]) rfl kq)
    refine w_iload X172 hx hby d25_14 rfl ?_
    refine w_iloadN X172 hx hby d25_16 rfl ?_
    refine Win.st ?_ (fun tq kq => XS.icmpNo X172.here hx rfl (hb hby d25_17) rfl (feq (by decide : ¬ ((0 : Int32) = (2 : Int32)))).1 kq)
    refine w_aloadN X172 hx hby d25_20 rfl rfl ?_
    refine w_iloadN X172 hx hby d25_21 rfl ?_
    refine w_iloadN X172 hx hby d25_22 rfl ?_
    show Win _ _ _ _ T172 (mkF mt 23 #[.val (.ref a), .val (.int (0 : Int32)), .val (.int (2 : Int32)), .val (.ref b165), .val (.int (0 : Int32)), .unset] [(.int (2 : Int32)), (.int (0 : Int32)), (.ref a)])
    obtain ⟨v176, _, ⟨T176, L176, k176, n176⟩, -, X176, ⟨Lc176, hQ176, l176, rfl, rfl⟩, st176⟩ := Jvm.LawKit.callS X172 hx (y := y_23) hown (mvT hZ (ow hw 253 rfl)) (mvT hZ (ow hw 254 rfl)) (mvT hZ (ow hw 232 rfl)) (mvT hZ (ow hw 255 rfl)) (by decide) (backOf (W := 0) (rm_utb_2 l Z a0 hw [] a ka x0 x1 x2 h172 n0 Z174 f173_31 ST f173_30) hZ (ow hw 255 rfl) (ow hw 232 rfl) (by decide) (by decide)) (g := (mkF mt 23 #[.val (.ref a), .val (.int (0 : Int32)), .val (.int (2 : Int32)), .val (.ref b165), .val (.int (0 : Int32)), .unset] [(.int (2 : Int32)), (.int (0 : Int32)), (.ref a)])) rfl (by rw [hml]; rfl) (argsL := [(.ref a), (.int (0 : Int32)), (.int (2 : Int32))]) (rest := []) (lenOf pd_16 rfl) rfl (wz rfl) (hb hby d25_23) (fun _ _ => ⟨rfl, e172, (by decide : 1 + 1 ≤ _), (by decide : 2 + 4 ≤ _)⟩)
    replace X176 : Stand p l e _ s mt args below meth cd T176 L176 2 6 := X176
    obtain ⟨h176, e176⟩ : ∃ z, T176.heap = z := ⟨_, rfl⟩
    rw [e176] at hQ176
    obtain ⟨tt, rfl, Nq176, K176, gt176, zt176, kt, V176⟩ := hQ176
    have N176 := own_fr (L := L176) l176 N172 Nq176
    have f177_60 := f173_30.keep K176 all0
    have Z178 : n0 ≤ h176.size := Nat.le_trans Z174 K176.1
    have K179 : Keep h0 h176 [] := Keep.trans K175 K176 all0
    have szt : h0.size ≤ tt := Nat.le_trans K175.1 zt176
    refine Win.st ?_ st176
    show Win _ _ _ _ T176 (mkF mt 26 #[.val (.ref a), .val (.int (0 : Int32)), .val (.int (2 : Int32)), .val (.ref b165), .val (.int (0 : Int32)), .unset] [(.ref tt)])
    refine Win.st ?_ (fun tq kq => XS.astore X176.here hx rfl (hb hby d25_26) rfl rfl (l' := #[.val (.ref a), .val (.int (0 : Int32)), .val (.int (2 : Int32)), .val (.ref b165), .val (.int (0 : Int32)), .val (.ref tt)]) rfl kq)
    refine w_aload X176 hx hby d25_28 rfl rfl ?_
    refine w_iload X176 hx hby d25_30 rfl ?_
    show Win _ _ _ _ T176 (mkF mt 32 #[.val (.ref a), .val (.int (0 : Int32)), .val (.int (2 : Int32)), .val (.ref b165), .val (.int (0 : Int32)), .val (.ref tt)] [(.int (0 : Int32)), (.ref tt)])
    obtain ⟨v180, _, ⟨T180, L180, k180, n180⟩, -, X180, ⟨Lc180, hQ180, l180, rfl, rfl⟩, st180⟩ := Jvm.LawKit.callS X176 hx (y := y_12) hown (mvT hZ (ow hw 269 rfl)) (mvT hZ (ow hw 270 rfl)) (mvT hZ (ow hw 232 rfl)) (mvT hZ (ow hw 271 rfl)) (by decide) (backOf (W := 0) (rm_getc l Z a0 hw [] tt kt 4 [(.int (own_b0 x0)), (.int (own_b1 x0)), (.int (own_b0 x1)), (.int (own_b1 x1))] 0 x0 h176 n0 Z178 V176 (by decide) (by decide) (by decide) rfl rfl hX0 ST f177_60) hZ (ow hw 271 rfl) (ow hw 232 rfl) (by decide) (by decide)) (g := (mkF mt 32 #[.val (.ref a), .val (.int (0 : Int32)), .val (.int (2 : Int32)), .val (.ref b165), .val (.int (0 : Int32)), .val (.ref tt)] [(.int (0 : Int32)), (.ref tt)])) rfl (by rw [hml]; rfl) (argsL := [(.ref tt), (.int (0 : Int32))]) (rest := []) (lenOf pd_7 rfl) rfl (wz rfl) (hb hby d25_32) (fun _ _ => ⟨rfl, e176, (by decide : 2 + 0 ≤ _), (by decide : 6 + 0 ≤ _)⟩)
    replace X180 : Stand p l e _ s mt args below meth cd T180 L180 2 6 := X180
    obtain ⟨rfl, Nq180, eh180⟩ := hQ180
    have N180 := own_fr (L := L180) l180 N176 Nq180
    refine Win.st ?_ st180
    refine w_sipush X180 hx hby d25_35 ?_
    refine Win.st ?_ (fun tq kq => XS.icmpYes X180.here hx rfl (pc0 := 38) (pc' := 54) rfl (hb hby d25_38) rfl (tlt hbig).2.2.1 (by decide) (by decide) kq)
    refine w_aload X180 hx hby d25_54 rfl rfl ?_
    show Win _ _ _ _ T180 (mkF mt 56 #[.val (.ref a), .val (.int (0 : Int32)), .val (.int (2 : Int32)), .val (.ref b165), .val (.int (0 : Int32)), .val (.ref tt)] [(.ref tt)])
    exact Win.ret X180 hx hlk eh180 hrt rfl (Or.inr (Or.inr (Or.inr (Or.inr ⟨rfl, rfl, rfl⟩)))) (hb hby d25_56) (by decide) (by decide) ⟨_, rfl, N180, K179, gt176, szt, _, Or.inr V176⟩
  · show Win _ _ _ _ T172 (mkF mt 12 #[.val (.ref a), .val (.int (0 : Int32)), .val (.int (2 : Int32)), .val (.ref b165), .unset, .unset] [(.int (1 : Int32))])
    refine Win.st ?_ (fun tq kq => XS.istore X172.here hx rfl (hb hby d25_12) rfl (l' := #[.val (.ref a), .val (.int (0 : Int32)), .val (.int (2 : Int32)), .val (.ref b165), .val (.int (1 : Int32)), .unset]) rfl kq)
    refine w_iload X172 hx hby d25_14 rfl ?_
    refine w_iloadN X172 hx hby d25_16 rfl ?_
    refine Win.st ?_ (fun tq kq => XS.icmpNo X172.here hx rfl (hb hby d25_17) rfl (feq (by decide : ¬ ((1 : Int32) = (2 : Int32)))).1 kq)
    refine w_aloadN X172 hx hby d25_20 rfl rfl ?_
    refine w_iloadN X172 hx hby d25_21 rfl ?_
    refine w_iloadN X172 hx hby d25_22 rfl ?_
    show Win _ _ _ _ T172 (mkF mt 23 #[.val (.ref a), .val (.int (0 : Int32)), .val (.int (2 : Int32)), .val (.ref b165), .val (.int (1 : Int32)), .unset] [(.int (2 : Int32)), (.int (0 : Int32)), (.ref a)])
    obtain ⟨v181, _, ⟨T181, L181, k181, n181⟩, -, X181, ⟨Lc181, hQ181, l181, rfl, rfl⟩, st181⟩ := Jvm.LawKit.callS X172 hx (y := y_23) hown (mvT hZ (ow hw 253 rfl)) (mvT hZ (ow hw 254 rfl)) (mvT hZ (ow hw 232 rfl)) (mvT hZ (ow hw 255 rfl)) (by decide) (backOf (W := 0) (rm_utb_2 l Z a0 hw [] a ka x0 x1 x2 h172 n0 Z174 f173_31 ST f173_30) hZ (ow hw 255 rfl) (ow hw 232 rfl) (by decide) (by decide)) (g := (mkF mt 23 #[.val (.ref a), .val (.int (0 : Int32)), .val (.int (2 : Int32)), .val (.ref b165), .val (.int (1 : Int32)), .unset] [(.int (2 : Int32)), (.int (0 : Int32)), (.ref a)])) rfl (by rw [hml]; rfl) (argsL := [(.ref a), (.int (0 : Int32)), (.int (2 : Int32))]) (rest := []) (lenOf pd_16 rfl) rfl (wz rfl) (hb hby d25_23) (fun _ _ => ⟨rfl, e172, (by decide : 1 + 1 ≤ _), (by decide : 2 + 4 ≤ _)⟩)
    replace X181 : Stand p l e _ s mt args below meth cd T181 L181 2 6 := X181
    obtain ⟨h181, e181⟩ : ∃ z, T181.heap = z := ⟨_, rfl⟩
    rw [e181] at hQ181
    obtain ⟨tt, rfl, Nq181, K181, gt181, zt181, kt, V181⟩ := hQ181
    have N181 := own_fr (L := L181) l181 N172 Nq181
    have f182_96 := f173_30.keep K181 all0
    have Z183 : n0 ≤ h181.size := Nat.le_trans Z174 K181.1
    have K184 : Keep h0 h181 [] := Keep.trans K175 K181 all0
    have szt : h0.size ≤ tt := Nat.le_trans K175.1 zt181
    refine Win.st ?_ st181
    show Win _ _ _ _ T181 (mkF mt 26 #[.val (.ref a), .val (.int (0 : Int32)), .val (.int (2 : Int32)), .val (.ref b165), .val (.int (1 : Int32)), .unset] [(.ref tt)])
    refine Win.st ?_ (fun tq kq => XS.astore X181.here hx rfl (hb hby d25_26) rfl rfl (l' := #[.val (.ref a), .val (.int (0 : Int32)), .val (.int (2 : Int32)), .val (.ref b165), .val (.int (1 : Int32)), .val (.ref tt)]) rfl kq)
    refine w_aload X181 hx hby d25_28 rfl rfl ?_
    refine w_iload X181 hx hby d25_30 rfl ?_
    show Win _ _ _ _ T181 (mkF mt 32 #[.val (.ref a), .val (.int (0 : Int32)), .val (.int (2 : Int32)), .val (.ref b165), .val (.int (1 : Int32)), .val (.ref tt)] [(.int (1 : Int32)), (.ref tt)])
    obtain ⟨v185, _, ⟨T185, L185, k185, n185⟩, -, X185, ⟨Lc185, hQ185, l185, rfl, rfl⟩, st185⟩ := Jvm.LawKit.callS X181 hx (y := y_12) hown (mvT hZ (ow hw 269 rfl)) (mvT hZ (ow hw 270 rfl)) (mvT hZ (ow hw 232 rfl)) (mvT hZ (ow hw 271 rfl)) (by decide) (backOf (W := 0) (rm_getc l Z a0 hw [] tt kt 4 [(.int (own_b0 x0)), (.int (own_b1 x0)), (.int (own_b0 x1)), (.int (own_b1 x1))] 1 x1 h181 n0 Z183 V181 (by decide) (by decide) (by decide) rfl rfl hX1 ST f182_96) hZ (ow hw 271 rfl) (ow hw 232 rfl) (by decide) (by decide)) (g := (mkF mt 32 #[.val (.ref a), .val (.int (0 : Int32)), .val (.int (2 : Int32)), .val (.ref b165), .val (.int (1 : Int32)), .val (.ref tt)] [(.int (1 : Int32)), (.ref tt)])) rfl (by rw [hml]; rfl) (argsL := [(.ref tt), (.int (1 : Int32))]) (rest := []) (lenOf pd_7 rfl) rfl (wz rfl) (hb hby d25_32) (fun _ _ => ⟨rfl, e181, (by decide : 2 + 0 ≤ _), (by decide : 6 + 0 ≤ _)⟩)
    replace X185 : Stand p l e _ s mt args below meth cd T185 L185 2 6 := X185
    obtain ⟨rfl, Nq185, eh185⟩ := hQ185
    have N185 := own_fr (L := L185) l185 N181 Nq185
    refine Win.st ?_ st185
    refine w_sipush X185 hx hby d25_35 ?_
    refine Win.st ?_ (fun tq kq => XS.icmpYes X185.here hx rfl (pc0 := 38) (pc' := 54) rfl (hb hby d25_38) rfl (tlt hbig).2.2.1 (by decide) (by decide) kq)
    refine w_aload X185 hx hby d25_54 rfl rfl ?_
    show Win _ _ _ _ T185 (mkF mt 56 #[.val (.ref a), .val (.int (0 : Int32)), .val (.int (2 : Int32)), .val (.ref b165), .val (.int (1 : Int32)), .val (.ref tt)] [(.ref tt)])
    exact Win.ret X185 hx hlk eh185 hrt rfl (Or.inr (Or.inr (Or.inr (Or.inr ⟨rfl, rfl, rfl⟩)))) (hb hby d25_56) (by decide) (by decide) ⟨_, rfl, N185, K184, gt181, szt, _, Or.inr V181⟩
abbrev k26 : ByteArray := jdk_52_method_15_code
theorem d26_0 : decode k26 0 = .ok (.iload_n 1, 1) := by decide +kernel
theorem d26_1 : decode k26 1 = .ok (.aload_n 0, 1) := by decide +kernel
theorem d26_2 : decode k26 2 = .ok (.arraylength, 1) := by decide +kernel
theorem d26_3 : decode k26 3 = .ok (.isub, 1) := by decide +kernel
theorem d26_4 : decode k26 4 = .ok (.bipush 31, 2) := by decide +kernel
theorem d26_6 : decode k26 6 = .ok (.iushr, 1) := by decide +kernel
theorem d26_7 : decode k26 7 = .ok (.i2b, 1) := by decide +kernel
theorem d26_8 : decode k26 8 = .ok (.ireturn, 1) := by decide +kernel
abbrev y_26 : MethodName := ⟨"java/lang/StringUTF16", "coderFromArrayLen", "([BI)B"⟩
abbrev r_cfa_2_0 : Room := { frames := 0, cells := 0, slots := 0, locals := 0 }
theorem ef_cfa_2_0 (mt : MethodId) (b : Addr) : entryFrame mt #[(.ref b), (.int (2 : Int32))] 2 = mkF mt 0 #[.val (.ref b), .val (.int (2 : Int32))] [] := by first | (simp [entryFrame, mkF, argsToLocals, Value.category]; done) | rfl
def Q_cfa_2_0 (Z : State) (b : Addr) (kb : ClassId) (vs : List Value) (h0 : Heap) (n0 : Nat) (v : Option Value) (h : Heap) (L : List Loc) : Prop := v = some (.int (0 : Int32)) ∧ Fr n0 L ∧ h = h0
theorem rm_cfa_2_0 (l : Launch) (Z : State) (a0 : Array Value) (hw : ∀ d ∈ tables_1, d.before a0 Z = true) (ws : List Jvm.Cond) (b : Addr) (kb : ClassId) (vs : List Value) (h0 : Heap) (n0 : Nat) (Z0 : n0 ≤ h0.size) (VB : Arv Z h0 b kb .byte (2 : Int32) vs (.int (0 : Int32))) :
    Met l y_26 k26 2 (some .byte) ws r_cfa_2_0 #[(.ref b), (.int (2 : Int32))] Z h0 (Q_cfa_2_0 Z b kb vs h0 n0) := by
  refine MetFree.of_bodySF (plainFor_of_name pn_3) hisR ?_
  intro p e s mt args below meth cd s₁ Bd hml0 hP hK
  obtain ⟨hA, hZ, hh⟩ := hP
  have hx := Bd.exec
  have hby := Bd.bytes
  have hml : cd.maxLocals = 2 := hml0
  have hlk : meth.locks = false := BodyLoose.notSynchronized Bd
  have hrt := Bd.returns
  have X0 : Stand p l e r_cfa_2_0 s mt args below meth cd s₁ [] 0 0 := Stand.of_body Bd
  have e0 : s₁.heap = h0 := by rw [← hh, Bd.state]; rfl
  have N0 := Fr.nil n0
  show Win p e below (Ends s (Q_cfa_2_0 Z b kb vs h0 n0) r_cfa_2_0.cells r_cfa_2_0.slots) s₁ (entryFrame mt args 2)
  rw [hA, ef_cfa_2_0]
  refine w_iloadN X0 hx hby d26_0 rfl ?_
  refine w_aloadN X0 hx hby d26_1 rfl rfl ?_
  refine Win.st ?_ (own_alen (g := (mkF mt 2 #[.val (.ref b), .val (.int (2 : Int32))] [(.ref b), (.int (2 : Int32))])) X0 hx hZ e0 VB rfl rfl (hb hby d26_2))
  show Win _ _ _ _ s₁ (mkF mt 3 #[.val (.ref b), .val (.int (2 : Int32))] [(.int (2 : Int32)), (.int (2 : Int32))])
  refine Win.st ?_ (fun tq kq => XS.isub X0.here hx rfl (hb hby d26_3) rfl kq)
  refine w_bipush X0 hx hby d26_4 ?_
  refine Win.st ?_ (fun tq kq => XS.iushr X0.here hx rfl (hb hby d26_6) rfl kq)
  show Win _ _ _ _ s₁ (mkF mt 7 #[.val (.ref b), .val (.int (2 : Int32))] [(.int ((((2 : Int32) - (2 : Int32)).toUInt32 >>> ((31 : Int32) &&& 31).toUInt32).toInt32))])
  refine Win.st ?_ (fun tq kq => XS.i2b X0.here hx rfl (hb hby d26_7) rfl kq)
  show Win _ _ _ _ s₁ (mkF mt 8 #[.val (.ref b), .val (.int (2 : Int32))] [(.int (((((2 : Int32) - (2 : Int32)).toUInt32 >>> ((31 : Int32) &&& 31).toUInt32).toInt32).toInt8.toInt32))])
  exact Win.retN X0 hx hlk e0 (t := .byte) (z' := (0 : Int32)) hrt (by simp) (hb hby d26_8) (by decide) (by decide) (by decide) ⟨rfl, N0, rfl⟩
abbrev r_cfa_2_1 : Room := { frames := 0, cells := 0, slots := 0, locals := 0 }
theorem ef_cfa_2_1 (mt : MethodId) (b : Addr) : entryFrame mt #[(.ref b), (.int (2 : Int32))] 2 = mkF mt 0 #[.val (.ref b), .val (.int (2 : Int32))] [] := by first | (simp [entryFrame, mkF, argsToLocals, Value.category]; done) | rfl
def Q_cfa_2_1 (Z : State) (b : Addr) (kb : ClassId) (vs : List Value) (h0 : Heap) (n0 : Nat) (v : Option Value) (h : Heap) (L : List Loc) : Prop := v = some (.int (1 : Int32)) ∧ Fr n0 L ∧ h = h0
theorem rm_cfa_2_1 (l : Launch) (Z : State) (a0 : Array Value) (hw : ∀ d ∈ tables_1, d.before a0 Z = true) (ws : List Jvm.Cond) (b : Addr) (kb : ClassId) (vs : List Value) (h0 : Heap) (n0 : Nat) (Z0 : n0 ≤ h0.size) (VB : Arv Z h0 b kb .byte (4 : Int32) vs (.int (0 : Int32))) :
    Met l y_26 k26 2 (some .byte) ws r_cfa_2_1 #[(.ref b), (.int (2 : Int32))] Z h0 (Q_cfa_2_1 Z b kb vs h0 n0) := by
  refine MetFree.of_bodySF (plainFor_of_name pn_3) hisR ?_
  intro p e s mt args below meth cd s₁ Bd hml0 hP hK
  obtain ⟨hA, hZ, hh⟩ := hP
  have hx := Bd.exec
  have hby := Bd.bytes
  have hml : cd.maxLocals = 2 := hml0
  have hlk : meth.locks = false := BodyLoose.notSynchronized Bd
  have hrt := Bd.returns
  have X0 : Stand p l e r_cfa_2_1 s mt args below meth cd s₁ [] 0 0 := Stand.of_body Bd
  have e0 : s₁.heap = h0 := by rw [← hh, Bd.state]; rfl
  have N0 := Fr.nil n0
  show Win p e below (Ends s (Q_cfa_2_1 Z b kb vs h0 n0) r_cfa_2_1.cells r_cfa_2_1.slots) s₁ (entryFrame mt args 2)
  rw [hA, ef_cfa_2_1]
  refine w_iloadN X0 hx hby d26_0 rfl ?_
  refine w_aloadN X0 hx hby d26_1 rfl rfl ?_
  refine Win.st ?_ (own_alen (g := (mkF mt 2 #[.val (.ref b), .val (.int (2 : Int32))] [(.ref b), (.int (2 : Int32))])) X0 hx hZ e0 VB rfl rfl (hb hby d26_2))
  show Win _ _ _ _ s₁ (mkF mt 3 #[.val (.ref b), .val (.int (2 : Int32))] [(.int (4 : Int32)), (.int (2 : Int32))])
  refine Win.st ?_ (fun tq kq => XS.isub X0.here hx rfl (hb hby d26_3) rfl kq)
  refine w_bipush X0 hx hby d26_4 ?_
  refine Win.st ?_ (fun tq kq => XS.iushr X0.here hx rfl (hb hby d26_6) rfl kq)
  show Win _ _ _ _ s₁ (mkF mt 7 #[.val (.ref b), .val (.int (2 : Int32))] [(.int ((((2 : Int32) - (4 : Int32)).toUInt32 >>> ((31 : Int32) &&& 31).toUInt32).toInt32))])
  refine Win.st ?_ (fun tq kq => XS.i2b X0.here hx rfl (hb hby d26_7) rfl kq)
  show Win _ _ _ _ s₁ (mkF mt 8 #[.val (.ref b), .val (.int (2 : Int32))] [(.int (((((2 : Int32) - (4 : Int32)).toUInt32 >>> ((31 : Int32) &&& 31).toUInt32).toInt32).toInt8.toInt32))])
  exact Win.retN X0 hx hlk e0 (t := .byte) (z' := (1 : Int32)) hrt (by simp) (hb hby d26_8) (by decide) (by decide) (by decide) ⟨rfl, N0, rfl⟩
abbrev k27 : ByteArray := jdk_42_method_149_code
theorem d27_0 : decode k27 0 = .ok (.aload_n 0, 1) := by decide +kernel
theorem d27_1 : decode k27 1 = .ok (.invokespecial 1, 3) := by decide +kernel
theorem d27_4 : decode k27 4 = .ok (.iload_n 3, 1) := by decide +kernel
theorem d27_5 : decode k27 5 = .ok (.ifCond .ne 22, 3) := by decide +kernel
theorem d27_27 : decode k27 27 = .ok (.getstatic 38, 3) := by decide +kernel
theorem d27_30 : decode k27 30 = .ok (.ifCond .eq 28, 3) := by decide +kernel
theorem d27_33 : decode k27 33 = .ok (.aload_n 1, 1) := by decide +kernel
theorem d27_34 : decode k27 34 = .ok (.iload_n 2, 1) := by decide +kernel
theorem d27_35 : decode k27 35 = .ok (.iload_n 3, 1) := by decide +kernel
theorem d27_36 : decode k27 36 = .ok (.invokestatic 177, 3) := by decide +kernel
theorem d27_39 : decode k27 39 = .ok (.astore 5, 2) := by decide +kernel
theorem d27_41 : decode k27 41 = .ok (.aload_n 0, 1) := by decide +kernel
theorem d27_42 : decode k27 42 = .ok (.aload 5, 2) := by decide +kernel
theorem d27_44 : decode k27 44 = .ok (.iload_n 3, 1) := by decide +kernel
theorem d27_45 : decode k27 45 = .ok (.invokestatic 47, 3) := by decide +kernel
theorem pd_17 : parseMethodDescriptor "([BI)B" = some ⟨[(.array .byte), .int], some .byte⟩ := by decide +kernel
theorem d27_48 : decode k27 48 = .ok (.putfield 15, 3) := by decide +kernel
theorem d27_51 : decode k27 51 = .ok (.aload_n 0, 1) := by decide +kernel
theorem d27_52 : decode k27 52 = .ok (.aload 5, 2) := by decide +kernel
theorem d27_54 : decode k27 54 = .ok (.putfield 9, 3) := by decide +kernel
theorem d27_57 : decode k27 57 = .ok (.return_, 1) := by decide +kernel
abbrev y_27 : MethodName := ⟨"java/lang/String", "<init>", "([CIILjava/lang/Void;)V"⟩
abbrev r_si6_2 : Room := { frames := 4, cells := 2, slots := 6, locals := 57 }
theorem ef_si6_2 (mt : MethodId) (a : Addr) (c : Addr) : entryFrame mt #[(.ref a), (.ref c), (.int (0 : Int32)), (.int (2 : Int32)), .null] 6 = mkF mt 0 #[.val (.ref a), .val (.ref c), .val (.int (0 : Int32)), .val (.int (2 : Int32)), .val .null, .unset] [] := by first | (simp [entryFrame, mkF, argsToLocals, Value.category]; done) | rfl
def Q_si6_2 (Z : State) (a : Addr) (c : Addr) (kc : ClassId) (x0 : Int32) (x1 : Int32) (x2 : Int32) (h0 : Heap) (n0 : Nat) (v : Option Value) (h : Heap) (L : List Loc) : Prop := v = none ∧ Fr n0 L ∧ Keep h0 h [a] ∧ ∃ (t : Addr) (k : ClassId) (z : Int32) (vs : List Value) (cd : Int32), Fld Z h a "java/lang/String" "value" "[B" (.ref t) ∧ Fld Z h a "java/lang/String" "coder" "B" (.int cd) ∧ Arv Z h t k .byte z vs (.int (0 : Int32)) ∧ own_S cd z 2 (own_f x0 x1 x2) vs
theorem rm_si6_2 (l : Launch) (Z : State) (a0 : Array Value) (hw : ∀ d ∈ tables_1, d.before a0 Z = true) (ws : List Jvm.Cond) (a : Addr) (c : Addr) (kc : ClassId) (x0 : Int32) (x1 : Int32) (x2 : Int32) (h0 : Heap) (n0 : Nat) (Z0 : n0 ≤ h0.size) (E : Exa Z h0 a "java/lang/String") (Fv : Fld Z h0 a "java/lang/String" "value" "[B" .null) (Fc : Fld Z h0 a "java/lang/String" "coder" "B" (.int (0 : Int32))) (ga : n0 ≤ a) (ST : own_St Z) (O : Old Z n0 h0) (VA : Arv Z h0 c kc .char (2 : Int32) [(.int x0), (.int x1)] (.int (0 : Int32))) (nca : c ≠ a) (hX0 : own_C x0) (hX1 : own_C x1) :
    Met l y_27 k27 6 none ws r_si6_2 #[(.ref a), (.ref c), (.int (0 : Int32)), (.int (2 : Int32)), .null] Z h0 (Q_si6_2 Z a c kc x0 x1 x2 h0 n0) := by
  refine MetFree.of_bodySF (plainFor_of_name pn_0) hisR ?_
  intro p e s mt args below meth cd s₁ Bd hml0 hP hK
  obtain ⟨hA, hZ, hh⟩ := hP
  have hx := Bd.exec
  have hby := Bd.bytes
  have hml : cd.maxLocals = 6 := hml0
  have hown : s.vm.findClass "java/lang/String" = some mt.cls := findClass_of_methodNamed Bd.named
  have hnm := (name_of_methodNamed Bd.named Bd.method).1
  have hlk : meth.locks = false := BodyLoose.notSynchronized Bd
  have hrt := Bd.returns
  have X0 : Stand p l e r_si6_2 s mt args below meth cd s₁ [] 0 0 := Stand.of_body Bd
  have e0 : s₁.heap = h0 := by rw [← hh, Bd.state]; rfl
  have N0 := Fr.nil n0
  show Win p e below (Ends s (Q_si6_2 Z a c kc x0 x1 x2 h0 n0) r_si6_2.cells r_si6_2.slots) s₁ (entryFrame mt args 6)
  rw [hA, ef_si6_2]
  obtain ⟨cs, u, S0, hcs, S1, hu, S2, S3, S4⟩ := id ST
  refine w_aloadN X0 hx hby d27_0 rfl rfl ?_
  show Win _ _ _ _ s₁ (mkF mt 1 #[.val (.ref a), .val (.ref c), .val (.int (0 : Int32)), .val (.int (2 : Int32)), .val .null, .unset] [(.ref a)])
  obtain ⟨T186, X186, e186, st186⟩ := initO X0 hx hZ hown (ow hw 15 rfl) (ow hw 16 rfl) (ow hw 17 rfl) e0 (g := (mkF mt 1 #[.val (.ref a), .val (.ref c), .val (.int (0 : Int32)), .val (.int (2 : Int32)), .val .null, .unset] [(.ref a)])) rfl (by rw [hml]; rfl) rfl (hb hby d27_1) (by decide) (W := 0) (by show 2 * 0 + _ ≤ _; exact Nat.le_of_eq rfl) (by decide)
  refine Win.st ?_ st186
  refine w_iloadN X186 hx hby d27_4 rfl ?_
  refine Win.st ?_ (fun tq kq => XS.ifYes X186.here hx rfl (pc0 := 5) (pc' := 27) rfl (hb hby d27_5) rfl ((if0 _ _).trans (feq (by decide : ¬ ((2 : Int32) = (0 : Int32)))).2) (by decide) (by decide) kq)
  show Win _ _ _ _ T186 (mkF mt 27 #[.val (.ref a), .val (.ref c), .val (.int (0 : Int32)), .val (.int (2 : Int32)), .val .null, .unset] [])
  obtain ⟨T187, X187, e187, st187⟩ := getS2 X186 hx hZ hown (host := "") (Or.inl (ow hw 71 rfl)) Via.refl e186 (S0.ext O.2) (g := (mkF mt 27 #[.val (.ref a), .val (.ref c), .val (.int (0 : Int32)), .val (.int (2 : Int32)), .val .null, .unset] [])) rfl (hb hby d27_27)
  refine Win.st ?_ st187
  show Win _ _ _ _ T187 (mkF mt 30 #[.val (.ref a), .val (.ref c), .val (.int (0 : Int32)), .val (.int (2 : Int32)), .val .null, .unset] [(.int cs)])
  refine Win.st ?_ (fun tq kq => XS.ifNo X187.here hx rfl (hb hby d27_30) rfl ((if0 _ _).trans (feq hcs).1) kq)
  refine w_aloadN X187 hx hby d27_33 rfl rfl ?_
  refine w_iloadN X187 hx hby d27_34 rfl ?_
  refine w_iloadN X187 hx hby d27_35 rfl ?_
  show Win _ _ _ _ T187 (mkF mt 36 #[.val (.ref a), .val (.ref c), .val (.int (0 : Int32)), .val (.int (2 : Int32)), .val .null, .unset] [(.int (2 : Int32)), (.int (0 : Int32)), (.ref c)])
  obtain ⟨v188, _, ⟨T188, L188, k188, n188⟩, -, X188, ⟨Lc188, hQ188, l188, rfl, rfl⟩, st188⟩ := Jvm.LawKit.callS X187 hx (y := y_25) hown (mvT hZ (ow hw 230 rfl)) (mvT hZ (ow hw 231 rfl)) (mvT hZ (ow hw 232 rfl)) (mvT hZ (ow hw 233 rfl)) (by decide) (backOf (W := 0) (rm_cmp3_2 l Z a0 hw [] c kc x0 x1 x2 h0 n0 Z0 VA hX0 hX1 ST O) hZ (ow hw 233 rfl) (ow hw 232 rfl) (by decide) (by decide)) (g := (mkF mt 36 #[.val (.ref a), .val (.ref c), .val (.int (0 : Int32)), .val (.int (2 : Int32)), .val .null, .unset] [(.int (2 : Int32)), (.int (0 : Int32)), (.ref c)])) rfl (by rw [hml]; rfl) (argsL := [(.ref c), (.int (0 : Int32)), (.int (2 : Int32))]) (rest := []) (lenOf pd_16 rfl) rfl (wz rfl) (hb hby d27_36) (fun _ _ => ⟨rfl, e187, (by decide : 0 + 2 ≤ _), (by decide : 0 + 6 ≤ _)⟩)
  replace X188 : Stand p l e _ s mt args below meth cd T188 L188 2 6 := X188
  obtain ⟨h188, e188⟩ : ∃ z, T188.heap = z := ⟨_, rfl⟩
  rw [e188] at hQ188
  obtain ⟨tt, rfl, Nq188, K188, gt188, zt188, kt, hor⟩ := hQ188
  have N188 := own_fr (L := L188) l188 N0 Nq188
  have f189_23 := E.keep K188
  have f189_24 := Fv.keep K188 nin0
  have f189_25 := Fc.keep K188 nin0
  have Z190 : n0 ≤ h188.size := Nat.le_trans Z0 K188.1
  have K191 : Keep h0 h188 [a] := Keep.trans (Keep.refl h0 [a]) K188 all0
  have ne192 : a ≠ tt := Nat.ne_of_lt (Nat.lt_of_lt_of_le E.lt zt188)
  refine Win.st ?_ st188
  show Win _ _ _ _ T188 (mkF mt 39 #[.val (.ref a), .val (.ref c), .val (.int (0 : Int32)), .val (.int (2 : Int32)), .val .null, .unset] [(.ref tt)])
  rcases hor with ⟨hall, Vt⟩ | Vt
  · show Win _ _ _ _ T188 (mkF mt 39 #[.val (.ref a), .val (.ref c), .val (.int (0 : Int32)), .val (.int (2 : Int32)), .val .null, .unset] [(.ref tt)])
    refine Win.st ?_ (fun tq kq => XS.astore X188.here hx rfl (hb hby d27_39) rfl rfl (l' := #[.val (.ref a), .val (.ref c), .val (.int (0 : Int32)), .val (.int (2 : Int32)), .val .null, .val (.ref tt)]) rfl kq)
    refine w_aloadN X188 hx hby d27_41 rfl rfl ?_
    refine w_aload X188 hx hby d27_42 rfl rfl ?_
    refine w_iloadN X188 hx hby d27_44 rfl ?_
    show Win _ _ _ _ T188 (mkF mt 45 #[.val (.ref a), .val (.ref c), .val (.int (0 : Int32)), .val (.int (2 : Int32)), .val .null, .val (.ref tt)] [(.int (2 : Int32)), (.ref tt), (.ref a)])
    obtain ⟨v194, _, ⟨T194, L194, k194, n194⟩, -, X194, ⟨Lc194, hQ194, l194, rfl, rfl⟩, st194⟩ := Jvm.LawKit.callS X188 hx (y := y_26) hown (mvT hZ (ow hw 237 rfl)) (mvT hZ (ow hw 238 rfl)) (mvT hZ (ow hw 232 rfl)) (mvT hZ (ow hw 239 rfl)) (by decide) (backOf (W := 1) (rm_cfa_2_0 l Z a0 hw [] tt kt [(.int (x0.toInt8.toInt32)), (.int (x1.toInt8.toInt32))] h188 n0 Z190 Vt) hZ (ow hw 239 rfl) (ow hw 232 rfl) (by decide) (by decide)) (g := (mkF mt 45 #[.val (.ref a), .val (.ref c), .val (.int (0 : Int32)), .val (.int (2 : Int32)), .val .null, .val (.ref tt)] [(.int (2 : Int32)), (.ref tt), (.ref a)])) rfl (by rw [hml]; rfl) (argsL := [(.ref tt), (.int (2 : Int32))]) (rest := [(.ref a)]) (lenOf pd_17 rfl) rfl (wz rfl) (hb hby d27_45) (fun _ _ => ⟨rfl, e188, (by decide : 2 + 0 ≤ _), (by decide : 6 + 0 ≤ _)⟩)
    replace X194 : Stand p l e _ s mt args below meth cd T194 L194 2 6 := X194
    obtain ⟨rfl, Nq194, eh194⟩ := hQ194
    have N194 := own_fr (L := L194) l194 N188 Nq194
    refine Win.st ?_ st194
    show Win _ _ _ _ T194 (mkF mt 48 #[.val (.ref a), .val (.ref c), .val (.int (0 : Int32)), .val (.int (2 : Int32)), .val .null, .val (.ref tt)] [(.int (0 : Int32)), (.ref a)])
    obtain ⟨T195, h195, X195, e195, W195, st195⟩ := putFN X194 hx hZ hown (ow hw 25 rfl) Via.refl eh194 f189_25 f189_23 (Or.inr ⟨(ow hw 21 rfl), rfl, hnm⟩) (ow hw 5 rfl) (ty := .byte) (v' := (.int (0 : Int32))) (by decide) rfl (by decide) (g := (mkF mt 48 #[.val (.ref a), .val (.ref c), .val (.int (0 : Int32)), .val (.int (2 : Int32)), .val .null, .val (.ref tt)] [(.int (0 : Int32)), (.ref a)])) rfl rfl (hb hby d27_48)
    obtain ⟨L195, X195, N195⟩ := own_hide X195 N194 ga
    have kp195 := Keep.of_wr W195
    have f195_50 := f189_24.other W195 (Or.inr (slot_ne (Or.inr (ow hw 20 rfl)) (Or.inr (ow hw 21 rfl)) (by decide) (t := (.array .byte)) (t' := .byte) (by decide) (by decide)))
    have fw195 := f189_25.same W195
    have f196_53 := f189_23.keep kp195
    have f196_55 := Vt.keep kp195 (ninS (Ne.symm ne192) nin0)
    have K198 : Keep h0 h195 [a] := Keep.trans K191 kp195 (allS (Or.inl (List.mem_of_getElem? (i := 0) rfl)) all0)
    refine Win.st ?_ st195
    refine w_aloadN X195 hx hby d27_51 rfl rfl ?_
    refine w_aload X195 hx hby d27_52 rfl rfl ?_
    show Win _ _ _ _ T195 (mkF mt 54 #[.val (.ref a), .val (.ref c), .val (.int (0 : Int32)), .val (.int (2 : Int32)), .val .null, .val (.ref tt)] [(.ref tt), (.ref a)])
    obtain ⟨T199, h199, X199, e199, W199, st199⟩ := putF X195 hx hZ hown (host := "") (Or.inl (ow hw 24 rfl)) Via.refl e195 f195_50 f196_53 (Or.inr ⟨(ow hw 20 rfl), rfl, hnm⟩) (ow hw 5 rfl) (ty := (.array .byte)) (by decide) rfl rfl (g := (mkF mt 54 #[.val (.ref a), .val (.ref c), .val (.int (0 : Int32)), .val (.int (2 : Int32)), .val .null, .val (.ref tt)] [(.ref tt), (.ref a)])) rfl rfl (hb hby d27_54)
    obtain ⟨L199, X199, N199⟩ := own_hide X199 N195 ga
    have kp199 := Keep.of_wr W199
    have fw199 := f195_50.same W199
    have f199_66 := fw195.other W199 (Or.inr (slot_ne (Or.inr (ow hw 21 rfl)) (Or.inr (ow hw 20 rfl)) (by decide) (t := .byte) (t' := (.array .byte)) (by decide) (by decide)))
    have f200_70 := f196_55.keep kp199 (ninS (Ne.symm ne192) nin0)
    have K202 : Keep h0 h199 [a] := Keep.trans K198 kp199 (allS (Or.inl (List.mem_of_getElem? (i := 0) rfl)) all0)
    refine Win.st ?_ st199
    show Win _ _ _ _ T199 (mkF mt 57 #[.val (.ref a), .val (.ref c), .val (.int (0 : Int32)), .val (.int (2 : Int32)), .val .null, .val (.ref tt)] [])
    exact Win.retV X199 hx hlk e199 hrt (hb hby d27_57) (by decide) (by decide) ⟨rfl, N199, K202, tt, kt, _, _, _, fw199, f199_66, f200_70, own_S0_2 x2 (own_B_of hX0 (hall.1)) (own_B_of hX1 (hall.2))⟩
  · show Win _ _ _ _ T188 (mkF mt 39 #[.val (.ref a), .val (.ref c), .val (.int (0 : Int32)), .val (.int (2 : Int32)), .val .null, .unset] [(.ref tt)])
    refine Win.st ?_ (fun tq kq => XS.astore X188.here hx rfl (hb hby d27_39) rfl rfl (l' := #[.val (.ref a), .val (.ref c), .val (.int (0 : Int32)), .val (.int (2 : Int32)), .val .null, .val (.ref tt)]) rfl kq)
    refine w_aloadN X188 hx hby d27_41 rfl rfl ?_
    refine w_aload X188 hx hby d27_42 rfl rfl ?_
    refine w_iloadN X188 hx hby d27_44 rfl ?_
    show Win _ _ _ _ T188 (mkF mt 45 #[.val (.ref a), .val (.ref c), .val (.int (0 : Int32)), .val (.int (2 : Int32)), .val .null, .val (.ref tt)] [(.int (2 : Int32)), (.ref tt), (.ref a)])
    obtain ⟨v203, _, ⟨T203, L203, k203, n203⟩, -, X203, ⟨Lc203, hQ203, l203, rfl, rfl⟩, st203⟩ := Jvm.LawKit.callS X188 hx (y := y_26) hown (mvT hZ (ow hw 237 rfl)) (mvT hZ (ow hw 238 rfl)) (mvT hZ (ow hw 232 rfl)) (mvT hZ (ow hw 239 rfl)) (by decide) (backOf (W := 1) (rm_cfa_2_1 l Z a0 hw [] tt kt [(.int (own_b0 x0)), (.int (own_b1 x0)), (.int (own_b0 x1)), (.int (own_b1 x1))] h188 n0 Z190 Vt) hZ (ow hw 239 rfl) (ow hw 232 rfl) (by decide) (by decide)) (g := (mkF mt 45 #[.val (.ref a), .val (.ref c), .val (.int (0 : Int32)), .val (.int (2 : Int32)), .val .null, .val (.ref tt)] [(.int (2 : Int32)), (.ref tt), (.ref a)])) rfl (by rw [hml]; rfl) (argsL := [(.ref tt), (.int (2 : Int32))]) (rest := [(.ref a)]) (lenOf pd_17 rfl) rfl (wz rfl) (hb hby d27_45) (fun _ _ => ⟨rfl, e188, (by decide : 2 + 0 ≤ _), (by decide : 6 + 0 ≤ _)⟩)
    replace X203 : Stand p l e _ s mt args below meth cd T203 L203 2 6 := X203
    obtain ⟨rfl, Nq203, eh203⟩ := hQ203
    have N203 := own_fr (L := L203) l203 N188 Nq203
    refine Win.st ?_ st203
    show Win _ _ _ _ T203 (mkF mt 48 #[.val (.ref a), .val (.ref c), .val (.int (0 : Int32)), .val (.int (2 : Int32)), .val .null, .val (.ref tt)] [(.int (1 : Int32)), (.ref a)])
    obtain ⟨T204, h204, X204, e204, W204, st204⟩ := putFN X203 hx hZ hown (ow hw 25 rfl) Via.refl eh203 f189_25 f189_23 (Or.inr ⟨(ow hw 21 rfl), rfl, hnm⟩) (ow hw 5 rfl) (ty := .byte) (v' := (.int (1 : Int32))) (by decide) rfl (by decide) (g := (mkF mt 48 #[.val (.ref a), .val (.ref c), .val (.int (0 : Int32)), .val (.int (2 : Int32)), .val .null, .val (.ref tt)] [(.int (1 : Int32)), (.ref a)])) rfl rfl (hb hby d27_48)
    obtain ⟨L204, X204, N204⟩ := own_hide X204 N203 ga
    have kp204 := Keep.of_wr W204
    have f204_91 := f189_24.other W204 (Or.inr (slot_ne (Or.inr (ow hw 20 rfl)) (Or.inr (ow hw 21 rfl)) (by decide) (t := (.array .byte)) (t' := .byte) (by decide) (by decide)))
    have fw204 := f189_25.same W204
    have f205_94 := f189_23.keep kp204
    have f205_96 := Vt.keep kp204 (ninS (Ne.symm ne192) nin0)
    have K207 : Keep h0 h204 [a] := Keep.trans K191 kp204 (allS (Or.inl (List.mem_of_getElem? (i := 0) rfl)) all0)
    refine Win.st ?_ st204
    refine w_aloadN X204 hx hby d27_51 rfl rfl ?_
    refine w_aload X204 hx hby d27_52 rfl rfl ?_
    show Win _ _ _ _ T204 (mkF mt 54 #[.val (.ref a), .val (.ref c), .val (.int (0 : Int32)), .val (.int (2 : Int32)), .val .null, .val (.ref tt)] [(.ref tt), (.ref a)])
    obtain ⟨T208, h208, X208, e208, W208, st208⟩ := putF X204 hx hZ hown (host := "") (Or.inl (ow hw 24 rfl)) Via.refl e204 f204_91 f205_94 (Or.inr ⟨(ow hw 20 rfl), rfl, hnm⟩) (ow hw 5 rfl) (ty := (.array .byte)) (by decide) rfl rfl (g := (mkF mt 54 #[.val (.ref a), .val (.ref c), .val (.int (0 : Int32)), .val (.int (2 : Int32)), .val .null, .val (.ref tt)] [(.ref tt), (.ref a)])) rfl rfl (hb hby d27_54)
    obtain ⟨L208, X208, N208⟩ := own_hide X208 N204 ga
    have kp208 := Keep.of_wr W208
    have fw208 := f204_91.same W208
    have f208_107 := fw204.other W208 (Or.inr (slot_ne (Or.inr (ow hw 21 rfl)) (Or.inr (ow hw 20 rfl)) (by decide) (t := .byte) (t' := (.array .byte)) (by decide) (by decide)))
    have f209_111 := f205_96.keep kp208 (ninS (Ne.symm ne192) nin0)
    have K211 : Keep h0 h208 [a] := Keep.trans K207 kp208 (allS (Or.inl (List.mem_of_getElem? (i := 0) rfl)) all0)
    refine Win.st ?_ st208
    show Win _ _ _ _ T208 (mkF mt 57 #[.val (.ref a), .val (.ref c), .val (.int (0 : Int32)), .val (.int (2 : Int32)), .val .null, .val (.ref tt)] [])
    exact Win.retV X208 hx hlk e208 hrt (hb hby d27_57) (by decide) (by decide) ⟨rfl, N208, K211, tt, kt, _, _, _, fw208, f208_107, f209_111, own_S1_2 x2 hX0 hX1⟩
abbrev k28 : ByteArray := jdk_42_method_3_code
theorem d28_0 : decode k28 0 = .ok (.aload_n 0, 1) := by decide +kernel
theorem d28_1 : decode k28 1 = .ok (.aload_n 1, 1) := by decide +kernel
theorem d28_2 : decode k28 2 = .ok (.iconst 0, 1) := by decide +kernel
theorem d28_3 : decode k28 3 = .ok (.aload_n 1, 1) := by decide +kernel
theorem d28_4 : decode k28 4 = .ok (.arraylength, 1) := by decide +kernel
theorem d28_5 : decode k28 5 = .ok (.aconst_null, 1) := by decide +kernel
theorem d28_6 : decode k28 6 = .ok (.invokespecial 27, 3) := by decide +kernel
theorem pd_18 : parseMethodDescriptor "([CIILjava/lang/Void;)V" = some ⟨[(.array .char), .int, .int, (.object "java/lang/Void")], none⟩ := by decide +kernel
theorem d28_9 : decode k28 9 = .ok (.return_, 1) := by decide +kernel
abbrev y_28 : MethodName := ⟨"java/lang/String", "<init>", "([C)V"⟩
abbrev r_si3_2 : Room := { frames := 5, cells := 2, slots := 6, locals := 74 }
theorem ef_si3_2 (mt : MethodId) (a : Addr) (c : Addr) : entryFrame mt #[(.ref a), (.ref c)] 2 = mkF mt 0 #[.val (.ref a), .val (.ref c)] [] := by first | (simp [entryFrame, mkF, argsToLocals, Value.category]; done) | rfl
def Q_si3_2 (Z : State) (a : Addr) (c : Addr) (kc : ClassId) (x0 : Int32) (x1 : Int32) (x2 : Int32) (h0 : Heap) (n0 : Nat) (v : Option Value) (h : Heap) (L : List Loc) : Prop := v = none ∧ Fr n0 L ∧ Keep h0 h [a] ∧ ∃ (t : Addr) (k : ClassId) (z : Int32) (vs : List Value) (cd : Int32), Fld Z h a "java/lang/String" "value" "[B" (.ref t) ∧ Fld Z h a "java/lang/String" "coder" "B" (.int cd) ∧ Arv Z h t k .byte z vs (.int (0 : Int32)) ∧ own_S cd z 2 (own_f x0 x1 x2) vs
theorem rm_si3_2 (l : Launch) (Z : State) (a0 : Array Value) (hw : ∀ d ∈ tables_1, d.before a0 Z = true) (ws : List Jvm.Cond) (a : Addr) (c : Addr) (kc : ClassId) (x0 : Int32) (x1 : Int32) (x2 : Int32) (h0 : Heap) (n0 : Nat) (Z0 : n0 ≤ h0.size) (E : Exa Z h0 a "java/lang/String") (Fv : Fld Z h0 a "java/lang/String" "value" "[B" .null) (Fc : Fld Z h0 a "java/lang/String" "coder" "B" (.int (0 : Int32))) (ga : n0 ≤ a) (ST : own_St Z) (O : Old Z n0 h0) (VA : Arv Z h0 c kc .char (2 : Int32) [(.int x0), (.int x1)] (.int (0 : Int32))) (nca : c ≠ a) (hX0 : own_C x0) (hX1 : own_C x1) :
    Met l y_28 k28 2 none ws r_si3_2 #[(.ref a), (.ref c)] Z h0 (Q_si3_2 Z a c kc x0 x1 x2 h0 n0) := by
  refine MetFree.of_bodySF (plainFor_of_name pn_0) hisR ?_
  intro p e s mt args below meth cd s₁ Bd hml0 hP hK
  obtain ⟨hA, hZ, hh⟩ := hP
  have hx := Bd.exec
  have hby := Bd.bytes
  have hml : cd.maxLocals = 2 := hml0
  have hown : s.vm.findClass "java/lang/String" = some mt.cls := findClass_of_methodNamed Bd.named
  have hlk : meth.locks = false := BodyLoose.notSynchronized Bd
  have hrt := Bd.returns
  have X0 : Stand p l e r_si3_2 s mt args below meth cd s₁ [] 0 0 := Stand.of_body Bd
  have e0 : s₁.heap = h0 := by rw [← hh, Bd.state]; rfl
  have N0 := Fr.nil n0
  show Win p e below (Ends s (Q_si3_2 Z a c kc x0 x1 x2 h0 n0) r_si3_2.cells r_si3_2.slots) s₁ (entryFrame mt args 2)
  rw [hA, ef_si3_2]
  obtain ⟨cs, u, S0, hcs, S1, hu, S2, S3, S4⟩ := id ST
  refine w_aloadN X0 hx hby d28_0 rfl rfl ?_
  refine w_aloadN X0 hx hby d28_1 rfl rfl ?_
  refine w_iconst X0 hx hby d28_2 ?_
  refine w_aloadN X0 hx hby d28_3 rfl rfl ?_
  refine Win.st ?_ (own_alen (g := (mkF mt 4 #[.val (.ref a), .val (.ref c)] [(.ref c), (.int (0 : Int32)), (.ref c), (.ref a)])) X0 hx hZ e0 VA rfl rfl (hb hby d28_4))
  refine Win.st ?_ (fun tq kq => XS.aconstNull X0.here hx rfl (hb hby d28_5) kq)
  show Win _ _ _ _ s₁ (mkF mt 6 #[.val (.ref a), .val (.ref c)] [.null, (.int (2 : Int32)), (.int (0 : Int32)), (.ref c), (.ref a)])
  obtain ⟨v212, _, ⟨T212, L212, k212, n212⟩, -, X212, ⟨Lc212, hQ212, l212, rfl, rfl⟩, st212⟩ := X0.specialBack hx (y := y_27) rfl hown (mvT hZ (ow hw 11 rfl)) (mvT hZ (ow hw 12 rfl)) (mvT hZ (ow hw 14 rfl)) (by decide) (backOf (W := 0) (rm_si6_2 l Z a0 hw [] a c kc x0 x1 x2 h0 n0 Z0 E Fv Fc ga ST O VA nca hX0 hX1) hZ (ow hw 14 rfl) (ow hw 6 rfl) (by decide) (by decide)) (g := (mkF mt 6 #[.val (.ref a), .val (.ref c)] [.null, (.int (2 : Int32)), (.int (0 : Int32)), (.ref c), (.ref a)])) rfl (by rw [hml]; rfl) (Steps.refl _) (a := a) (argsL := [(.ref c), (.int (0 : Int32)), (.int (2 : Int32)), .null]) (rest := []) (lenOf pd_18 rfl) rfl (wz rfl) (hb hby d28_6) (fun _ _ => ⟨rfl, e0, (by decide : 0 + 2 ≤ _), (by decide : 0 + 6 ≤ _)⟩)
  replace X212 : Stand p l e _ s mt args below meth cd T212 L212 2 6 := X212
  obtain ⟨h212, e212⟩ : ∃ z, T212.heap = z := ⟨_, rfl⟩
  rw [e212] at hQ212
  obtain ⟨rfl, Nq212, K212, hs6⟩ := hQ212
  have N212 := own_fr (L := L212) l212 N0 Nq212
  have K215 : Keep h0 h212 [a] := Keep.trans (Keep.refl h0 [a]) K212 (allS (Or.inl (List.mem_of_getElem? (i := 0) rfl)) all0)
  refine Win.tr ?_ st212
  show Win _ _ _ _ T212 (mkF mt 9 #[.val (.ref a), .val (.ref c)] [])
  exact Win.retV X212 hx hlk e212 hrt (hb hby d28_9) (by decide) (by decide) ⟨rfl, N212, K215, hs6⟩
abbrev r_utb_3 : Room := { frames := 2, cells := 1, slots := 6, locals := 24 }
theorem ef_utb_3 (mt : MethodId) (a : Addr) : entryFrame mt #[(.ref a), (.int (0 : Int32)), (.int (3 : Int32))] 5 = mkF mt 0 #[.val (.ref a), .val (.int (0 : Int32)), .val (.int (3 : Int32)), .unset, .unset] [] := by first | (simp [entryFrame, mkF, argsToLocals, Value.category]; done) | rfl
def Q_utb_3 (Z : State) (a : Addr) (ka : ClassId) (x0 : Int32) (x1 : Int32) (x2 : Int32) (h0 : Heap) (n0 : Nat) (v : Option Value) (h : Heap) (L : List Loc) : Prop := ∃ r : Addr, v = some (.ref r) ∧ Fr n0 L ∧ Keep h0 h [] ∧ n0 ≤ r ∧ h0.size ≤ r ∧ ∃ k : ClassId, Arv Z h r k .byte (6 : Int32) [(.int (own_b0 x0)), (.int (own_b1 x0)), (.int (own_b0 x1)), (.int (own_b1 x1)), (.int (own_b0 x2)), (.int (own_b1 x2))] (.int (0 : Int32))
theorem rm_utb_3 (l : Launch) (Z : State) (a0 : Array Value) (hw : ∀ d ∈ tables_1, d.before a0 Z = true) (ws : List Jvm.Cond) (a : Addr) (ka : ClassId) (x0 : Int32) (x1 : Int32) (x2 : Int32) (h0 : Heap) (n0 : Nat) (Z0 : n0 ≤ h0.size) (VA : Arv Z h0 a ka .char (3 : Int32) [(.int x0), (.int x1), (.int x2)] (.int (0 : Int32))) (ST : own_St Z) (O : Old Z n0 h0) :
    Met l y_23 k23 5 (some (.array .byte)) ws r_utb_3 #[(.ref a), (.int (0 : Int32)), (.int (3 : Int32))] Z h0 (Q_utb_3 Z a ka x0 x1 x2 h0 n0) := by
  refine MetFree.of_bodySF (plainFor_of_name pn_3) hisR ?_
  intro p e s mt args below meth cd s₁ Bd hml0 hP hK
  obtain ⟨hA, hZ, hh⟩ := hP
  have hx := Bd.exec
  have hby := Bd.bytes
  have hml : cd.maxLocals = 5 := hml0
  have hown : s.vm.findClass "java/lang/StringUTF16" = some mt.cls := findClass_of_methodNamed Bd.named
  have hlk : meth.locks = false := BodyLoose.notSynchronized Bd
  have hrt := Bd.returns
  have X0 : Stand p l e r_utb_3 s mt args below meth cd s₁ [] 0 0 := Stand.of_body Bd
  have e0 : s₁.heap = h0 := by rw [← hh, Bd.state]; rfl
  have N0 := Fr.nil n0
  show Win p e below (Ends s (Q_utb_3 Z a ka x0 x1 x2 h0 n0) r_utb_3.cells r_utb_3.slots) s₁ (entryFrame mt args 5)
  rw [hA, ef_utb_3]
  obtain ⟨cs, u, S0, hcs, S1, hu, S2, S3, S4⟩ := id ST
  refine w_iloadN X0 hx hby d23_0 rfl ?_
  show Win _ _ _ _ s₁ (mkF mt 1 #[.val (.ref a), .val (.int (0 : Int32)), .val (.int (3 : Int32)), .unset, .unset] [(.int (3 : Int32))])
  obtain ⟨v216, _, ⟨T216, L216, k216, n216⟩, -, X216, ⟨Lc216, hQ216, l216, rfl, rfl⟩, st216⟩ := Jvm.LawKit.callS X0 hx (y := y_17) hown (mvT hZ (ow hw 256 rfl)) (mvT hZ (ow hw 257 rfl)) (mvT hZ (ow hw 232 rfl)) (mvT hZ (ow hw 258 rfl)) (by decide) (backOf (W := 0) (rm_nbf_3 l Z a0 hw []  h0 n0 Z0 ) hZ (ow hw 258 rfl) (ow hw 232 rfl) (by decide) (by decide)) (g := (mkF mt 1 #[.val (.ref a), .val (.int (0 : Int32)), .val (.int (3 : Int32)), .unset, .unset] [(.int (3 : Int32))])) rfl (by rw [hml]; rfl) (argsL := [(.int (3 : Int32))]) (rest := []) (lenOf pd_14 rfl) rfl (wz rfl) (hb hby d23_1) (fun _ _ => ⟨rfl, e0, (by decide : 0 + 1 ≤ _), (by decide : 0 + 6 ≤ _)⟩)
  replace X216 : Stand p l e _ s mt args below meth cd T216 L216 1 6 := X216
  obtain ⟨h216, e216⟩ : ∃ z, T216.heap = z := ⟨_, rfl⟩
  rw [e216] at hQ216
  obtain ⟨bb, rfl, Nq216, K216, gb216, sb216, kb, V216, -⟩ := hQ216
  have N216 := own_fr (L := L216) l216 N0 Nq216
  have f217_9 := O.keep K216 all0
  have f217_10 := VA.keep K216 nin0
  have Z218 : n0 ≤ h216.size := Nat.le_trans Z0 K216.1
  have K219 : Keep h0 h216 [] := Keep.trans (Keep.refl h0 []) K216 all0
  have ne220 : a ≠ bb := Nat.ne_of_lt (Nat.lt_of_lt_of_le VA.lt sb216)
  refine Win.st ?_ st216
  show Win _ _ _ _ T216 (mkF mt 4 #[.val (.ref a), .val (.int (0 : Int32)), .val (.int (3 : Int32)), .unset, .unset] [(.ref bb)])
  refine Win.st ?_ (fun tq kq => XS.astoreN X216.here hx rfl (hb hby d23_4) rfl rfl (l' := #[.val (.ref a), .val (.int (0 : Int32)), .val (.int (3 : Int32)), .val (.ref bb), .unset]) rfl kq)
  refine w_iconst X216 hx hby d23_5 ?_
  refine Win.st ?_ (fun tq kq => XS.istore X216.here hx rfl (hb hby d23_6) rfl (l' := #[.val (.ref a), .val (.int (0 : Int32)), .val (.int (3 : Int32)), .val (.ref bb), .val (.int (0 : Int32))]) rfl kq)
  refine w_iload X216 hx hby d23_8 rfl ?_
  refine w_iloadN X216 hx hby d23_10 rfl ?_
  refine Win.st ?_ (fun tq kq => XS.icmpNo X216.here hx rfl (hb hby d23_11) rfl (tlt (by decide : (0 : Int32) < (3 : Int32))).2.1 kq)
  refine w_aloadN X216 hx hby d23_14 rfl rfl ?_
  refine w_iload X216 hx hby d23_15 rfl ?_
  refine w_aloadN X216 hx hby d23_17 rfl rfl ?_
  refine w_iloadN X216 hx hby d23_18 rfl ?_
  show Win _ _ _ _ T216 (mkF mt 19 #[.val (.ref a), .val (.int (0 : Int32)), .val (.int (3 : Int32)), .val (.ref bb), .val (.int (0 : Int32))] [(.int (0 : Int32)), (.ref a), (.int (0 : Int32)), (.ref bb)])
  refine Win.st ?_ (own_cald (g := (mkF mt 19 #[.val (.ref a), .val (.int (0 : Int32)), .val (.int (3 : Int32)), .val (.ref bb), .val (.int (0 : Int32))] [(.int (0 : Int32)), (.ref a), (.int (0 : Int32)), (.ref bb)])) X216 hx hZ e216 f217_10 (j := (0 : Int32)) (v := (.int x0)) (by decide) (by decide) rfl rfl rfl (hb hby d23_19))
  show Win _ _ _ _ T216 (mkF mt 20 #[.val (.ref a), .val (.int (0 : Int32)), .val (.int (3 : Int32)), .val (.ref bb), .val (.int (0 : Int32))] [(.int x0), (.int (0 : Int32)), (.ref bb)])
  obtain ⟨v221, _, ⟨T221, L221, k221, n221⟩, -, X221, ⟨Lc221, hQ221, l221, rfl, rfl⟩, st221⟩ := Jvm.LawKit.callS X216 hx (y := y_11) hown (mvT hZ (ow hw 263 rfl)) (mvT hZ (ow hw 264 rfl)) (mvT hZ (ow hw 232 rfl)) (mvT hZ (ow hw 265 rfl)) (by decide) (backOf (W := 0) (rm_putc l Z a0 hw [] bb x0 kb 6 [(.int (0 : Int32)), (.int (0 : Int32)), (.int (0 : Int32)), (.int (0 : Int32)), (.int (0 : Int32)), (.int (0 : Int32))] 0 h216 n0 Z218 V216 (by decide) (by decide) (by decide) (by simp) gb216 ST f217_9) hZ (ow hw 265 rfl) (ow hw 232 rfl) (by decide) (by decide)) (g := (mkF mt 20 #[.val (.ref a), .val (.int (0 : Int32)), .val (.int (3 : Int32)), .val (.ref bb), .val (.int (0 : Int32))] [(.int x0), (.int (0 : Int32)), (.ref bb)])) rfl (by rw [hml]; rfl) (argsL := [(.ref bb), (.int (0 : Int32)), (.int x0)]) (rest := []) (lenOf pd_10 rfl) rfl (wz rfl) (hb hby d23_20) (fun _ _ => ⟨rfl, e216, (by decide : 1 + 0 ≤ _), (by decide : 6 + 0 ≤ _)⟩)
  replace X221 : Stand p l e _ s mt args below meth cd T221 L221 1 6 := X221
  obtain ⟨h221, e221⟩ : ∃ z, T221.heap = z := ⟨_, rfl⟩
  rw [e221] at hQ221
  obtain ⟨rfl, Nq221, K221, V221⟩ := hQ221
  have N221 := own_fr (L := L221) l221 N216 Nq221
  have f222_35 := f217_9.keep K221 (allS gb216 all0)
  have f222_36 := f217_10.keep K221 (ninS ne220 nin0)
  have Z223 : n0 ≤ h221.size := Nat.le_trans Z218 K221.1
  have K224 : Keep h0 h221 [] := Keep.trans K219 K221 (allS (Or.inr sb216) all0)
  replace V221 : Arv Z h221 bb kb .byte (6 : Int32) [(.int (own_b0 x0)), (.int (own_b1 x0)), (.int (0 : Int32)), (.int (0 : Int32)), (.int (0 : Int32)), (.int (0 : Int32))] (.int (0 : Int32)) := V221
  refine Win.st ?_ st221
  show Win _ _ _ _ T221 (mkF mt 23 #[.val (.ref a), .val (.int (0 : Int32)), .val (.int (3 : Int32)), .val (.ref bb), .val (.int (0 : Int32))] [])
  refine Win.st ?_ (fun tq kq => XS.iinc X221.here hx rfl (hb hby d23_23) rfl (l' := #[.val (.ref a), .val (.int (1 : Int32)), .val (.int (3 : Int32)), .val (.ref bb), .val (.int (0 : Int32))]) rfl kq)
  show Win _ _ _ _ T221 (mkF mt 26 #[.val (.ref a), .val (.int (1 : Int32)), .val (.int (3 : Int32)), .val (.ref bb), .val (.int (0 : Int32))] [])
  refine Win.st ?_ (fun tq kq => XS.iinc X221.here hx rfl (hb hby d23_26) rfl (l' := #[.val (.ref a), .val (.int (1 : Int32)), .val (.int (3 : Int32)), .val (.ref bb), .val (.int (1 : Int32))]) rfl kq)
  show Win _ _ _ _ T221 (mkF mt 29 #[.val (.ref a), .val (.int (1 : Int32)), .val (.int (3 : Int32)), .val (.ref bb), .val (.int (1 : Int32))] [])
  refine Win.st ?_ (fun tq kq => XS.goto X221.here hx rfl (pc0 := 29) (pc' := 8) rfl (hb hby d23_29) (by decide) (by decide) kq)
  refine w_iload X221 hx hby d23_8 rfl ?_
  refine w_iloadN X221 hx hby d23_10 rfl ?_
  refine Win.st ?_ (fun tq kq => XS.icmpNo X221.here hx rfl (hb hby d23_11) rfl (tlt (by decide : (1 : Int32) < (3 : Int32))).2.1 kq)
  refine w_aloadN X221 hx hby d23_14 rfl rfl ?_
  refine w_iload X221 hx hby d23_15 rfl ?_
  refine w_aloadN X221 hx hby d23_17 rfl rfl ?_
  refine w_iloadN X221 hx hby d23_18 rfl ?_
  show Win _ _ _ _ T221 (mkF mt 19 #[.val (.ref a), .val (.int (1 : Int32)), .val (.int (3 : Int32)), .val (.ref bb), .val (.int (1 : Int32))] [(.int (1 : Int32)), (.ref a), (.int (1 : Int32)), (.ref bb)])
  refine Win.st ?_ (own_cald (g := (mkF mt 19 #[.val (.ref a), .val (.int (1 : Int32)), .val (.int (3 : Int32)), .val (.ref bb), .val (.int (1 : Int32))] [(.int (1 : Int32)), (.ref a), (.int (1 : Int32)), (.ref bb)])) X221 hx hZ e221 f222_36 (j := (1 : Int32)) (v := (.int x1)) (by decide) (by decide) rfl rfl rfl (hb hby d23_19))
  show Win _ _ _ _ T221 (mkF mt 20 #[.val (.ref a), .val (.int (1 : Int32)), .val (.int (3 : Int32)), .val (.ref bb), .val (.int (1 : Int32))] [(.int x1), (.int (1 : Int32)), (.ref bb)])
  obtain ⟨v225, _, ⟨T225, L225, k225, n225⟩, -, X225, ⟨Lc225, hQ225, l225, rfl, rfl⟩, st225⟩ := Jvm.LawKit.callS X221 hx (y := y_11) hown (mvT hZ (ow hw 263 rfl)) (mvT hZ (ow hw 264 rfl)) (mvT hZ (ow hw 232 rfl)) (mvT hZ (ow hw 265 rfl)) (by decide) (backOf (W := 0) (rm_putc l Z a0 hw [] bb x1 kb 6 [(.int (own_b0 x0)), (.int (own_b1 x0)), (.int (0 : Int32)), (.int (0 : Int32)), (.int (0 : Int32)), (.int (0 : Int32))] 1 h221 n0 Z223 V221 (by decide) (by decide) (by decide) (by simp) gb216 ST f222_35) hZ (ow hw 265 rfl) (ow hw 232 rfl) (by decide) (by decide)) (g := (mkF mt 20 #[.val (.ref a), .val (.int (1 : Int32)), .val (.int (3 : Int32)), .val (.ref bb), .val (.int (1 : Int32))] [(.int x1), (.int (1 : Int32)), (.ref bb)])) rfl (by rw [hml]; rfl) (argsL := [(.ref bb), (.int (1 : Int32)), (.int x1)]) (rest := []) (lenOf pd_10 rfl) rfl (wz rfl) (hb hby d23_20) (fun _ _ => ⟨rfl, e221, (by decide : 1 + 0 ≤ _), (by decide : 6 + 0 ≤ _)⟩)
  replace X225 : Stand p l e _ s mt args below meth cd T225 L225 1 6 := X225
  obtain ⟨h225, e225⟩ : ∃ z, T225.heap = z := ⟨_, rfl⟩
  rw [e225] at hQ225
  obtain ⟨rfl, Nq225, K225, V225⟩ := hQ225
  have N225 := own_fr (L := L225) l225 N221 Nq225
  have f226_63 := f222_35.keep K225 (allS gb216 all0)
  have f226_64 := f222_36.keep K225 (ninS ne220 nin0)
  have Z227 : n0 ≤ h225.size := Nat.le_trans Z223 K225.1
  have K228 : Keep h0 h225 [] := Keep.trans K224 K225 (allS (Or.inr sb216) all0)
  replace V225 : Arv Z h225 bb kb .byte (6 : Int32) [(.int (own_b0 x0)), (.int (own_b1 x0)), (.int (own_b0 x1)), (.int (own_b1 x1)), (.int (0 : Int32)), (.int (0 : Int32))] (.int (0 : Int32)) := V225
  refine Win.st ?_ st225
  show Win _ _ _ _ T225 (mkF mt 23 #[.val (.ref a), .val (.int (1 : Int32)), .val (.int (3 : Int32)), .val (.ref bb), .val (.int (1 : Int32))] [])
  refine Win.st ?_ (fun tq kq => XS.iinc X225.here hx rfl (hb hby d23_23) rfl (l' := #[.val (.ref a), .val (.int (2 : Int32)), .val (.int (3 : Int32)), .val (.ref bb), .val (.int (1 : Int32))]) rfl kq)
  show Win _ _ _ _ T225 (mkF mt 26 #[.val (.ref a), .val (.int (2 : Int32)), .val (.int (3 : Int32)), .val (.ref bb), .val (.int (1 : Int32))] [])
  refine Win.st ?_ (fun tq kq => XS.iinc X225.here hx rfl (hb hby d23_26) rfl (l' := #[.val (.ref a), .val (.int (2 : Int32)), .val (.int (3 : Int32)), .val (.ref bb), .val (.int (2 : Int32))]) rfl kq)
  show Win _ _ _ _ T225 (mkF mt 29 #[.val (.ref a), .val (.int (2 : Int32)), .val (.int (3 : Int32)), .val (.ref bb), .val (.int (2 : Int32))] [])
  refine Win.st ?_ (fun tq kq => XS.goto X225.here hx rfl (pc0 := 29) (pc' := 8) rfl (hb hby d23_29) (by decide) (by decide) kq)
  refine w_iload X225 hx hby d23_8 rfl ?_
  refine w_iloadN X225 hx hby d23_10 rfl ?_
  refine Win.st ?_ (fun tq kq => XS.icmpNo X225.here hx rfl (hb hby d23_11) rfl (tlt (by decide : (2 : Int32) < (3 : Int32))).2.1 kq)
  refine w_aloadN X225 hx hby d23_14 rfl rfl ?_
  refine w_iload X225 hx hby d23_15 rfl ?_
  refine w_aloadN X225 hx hby d23_17 rfl rfl ?_
  refine w_iloadN X225 hx hby d23_18 rfl ?_
  show Win _ _ _ _ T225 (mkF mt 19 #[.val (.ref a), .val (.int (2 : Int32)), .val (.int (3 : Int32)), .val (.ref bb), .val (.int (2 : Int32))] [(.int (2 : Int32)), (.ref a), (.int (2 : Int32)), (.ref bb)])
  refine Win.st ?_ (own_cald (g := (mkF mt 19 #[.val (.ref a), .val (.int (2 : Int32)), .val (.int (3 : Int32)), .val (.ref bb), .val (.int (2 : Int32))] [(.int (2 : Int32)), (.ref a), (.int (2 : Int32)), (.ref bb)])) X225 hx hZ e225 f226_64 (j := (2 : Int32)) (v := (.int x2)) (by decide) (by decide) rfl rfl rfl (hb hby d23_19))
  show Win _ _ _ _ T225 (mkF mt 20 #[.val (.ref a), .val (.int (2 : Int32)), .val (.int (3 : Int32)), .val (.ref bb), .val (.int (2 : Int32))] [(.int x2), (.int (2 : Int32)), (.ref bb)])
  obtain ⟨v229, _, ⟨T229, L229, k229, n229⟩, -, X229, ⟨Lc229, hQ229, l229, rfl, rfl⟩, st229⟩ := Jvm.LawKit.callS X225 hx (y := y_11) hown (mvT hZ (ow hw 263 rfl)) (mvT hZ (ow hw 264 rfl)) (mvT hZ (ow hw 232 rfl)) (mvT hZ (ow hw 265 rfl)) (by decide) (backOf (W := 0) (rm_putc l Z a0 hw [] bb x2 kb 6 [(.int (own_b0 x0)), (.int (own_b1 x0)), (.int (own_b0 x1)), (.int (own_b1 x1)), (.int (0 : Int32)), (.int (0 : Int32))] 2 h225 n0 Z227 V225 (by decide) (by decide) (by decide) (by simp) gb216 ST f226_63) hZ (ow hw 265 rfl) (ow hw 232 rfl) (by decide) (by decide)) (g := (mkF mt 20 #[.val (.ref a), .val (.int (2 : Int32)), .val (.int (3 : Int32)), .val (.ref bb), .val (.int (2 : Int32))] [(.int x2), (.int (2 : Int32)), (.ref bb)])) rfl (by rw [hml]; rfl) (argsL := [(.ref bb), (.int (2 : Int32)), (.int x2)]) (rest := []) (lenOf pd_10 rfl) rfl (wz rfl) (hb hby d23_20) (fun _ _ => ⟨rfl, e225, (by decide : 1 + 0 ≤ _), (by decide : 6 + 0 ≤ _)⟩)
  replace X229 : Stand p l e _ s mt args below meth cd T229 L229 1 6 := X229
  obtain ⟨h229, e229⟩ : ∃ z, T229.heap = z := ⟨_, rfl⟩
  rw [e229] at hQ229
  obtain ⟨rfl, Nq229, K229, V229⟩ := hQ229
  have N229 := own_fr (L := L229) l229 N225 Nq229
  have K232 : Keep h0 h229 [] := Keep.trans K228 K229 (allS (Or.inr sb216) all0)
  replace V229 : Arv Z h229 bb kb .byte (6 : Int32) [(.int (own_b0 x0)), (.int (own_b1 x0)), (.int (own_b0 x1)), (.int (own_b1 x1)), (.int (own_b0 x2)), (.int (own_b1 x2))] (.int (0 : Int32)) := V229
  refine Win.st ?_ st229
  show Win _ _ _ _ T229 (mkF mt 23 #[.val (.ref a), .val (.int (2 : Int32)), .val (.int (3 : Int32)), .val (.ref bb), .val (.int (2 : Int32))] [])
  refine Win.st ?_ (fun tq kq => XS.iinc X229.here hx rfl (hb hby d23_23) rfl (l' := #[.val (.ref a), .val (.int (3 : Int32)), .val (.int (3 : Int32)), .val (.ref bb), .val (.int (2 : Int32))]) rfl kq)
  show Win _ _ _ _ T229 (mkF mt 26 #[.val (.ref a), .val (.int (3 : Int32)), .val (.int (3 : Int32)), .val (.ref bb), .val (.int (2 : Int32))] [])
  refine Win.st ?_ (fun tq kq => XS.iinc X229.here hx rfl (hb hby d23_26) rfl (l' := #[.val (.ref a), .val (.int (3 : Int32)), .val (.int (3 : Int32)), .val (.ref bb), .val (.int (3 : Int32))]) rfl kq)
  show Win _ _ _ _ T229 (mkF mt 29 #[.val (.ref a), .val (.int (3 : Int32)), .val (.int (3 : Int32)), .val (.ref bb), .val (.int (3 : Int32))] [])
  refine Win.st ?_ (fun tq kq => XS.goto X229.here hx rfl (pc0 := 29) (pc' := 8) rfl (hb hby d23_29) (by decide) (by decide) kq)
  refine w_iload X229 hx hby d23_8 rfl ?_
  refine w_iloadN X229 hx hby d23_10 rfl ?_
  refine Win.st ?_ (fun tq kq => XS.icmpYes X229.here hx rfl (pc0 := 11) (pc' := 32) rfl (hb hby d23_11) rfl (flt (Int32.lt_irrefl)).2.1 (by decide) (by decide) kq)
  refine w_aloadN X229 hx hby d23_32 rfl rfl ?_
  show Win _ _ _ _ T229 (mkF mt 33 #[.val (.ref a), .val (.int (3 : Int32)), .val (.int (3 : Int32)), .val (.ref bb), .val (.int (3 : Int32))] [(.ref bb)])
  exact Win.ret X229 hx hlk e229 hrt rfl (Or.inr (Or.inr (Or.inr (Or.inr ⟨rfl, rfl, rfl⟩)))) (hb hby d23_33) (by decide) (by decide) ⟨_, rfl, N229, K232, gb216, sb216, _, V229⟩
abbrev r_cmp5_3 : Room := { frames := 0, cells := 0, slots := 0, locals := 0 }
theorem ef_cmp5_3 (mt : MethodId) (a : Addr) (b : Addr) : entryFrame mt #[(.ref a), (.int (0 : Int32)), (.ref b), (.int (0 : Int32)), (.int (3 : Int32))] 7 = mkF mt 0 #[.val (.ref a), .val (.int (0 : Int32)), .val (.ref b), .val (.int (0 : Int32)), .val (.int (3 : Int32)), .unset, .unset] [] := by first | (simp [entryFrame, mkF, argsToLocals, Value.category]; done) | rfl
def Q_cmp5_3 (Z : State) (a : Addr) (b : Addr) (ka : ClassId) (kb : ClassId) (x0 : Int32) (x1 : Int32) (x2 : Int32) (h0 : Heap) (n0 : Nat) (v : Option Value) (h : Heap) (L : List Loc) : Prop := ∃ r : Int32, v = some (.int r) ∧ Fr n0 L ∧ Keep h0 h [b] ∧ ((r = (3 : Int32) ∧ (¬ (255 : Int32) < x0 ∧ ¬ (255 : Int32) < x1 ∧ ¬ (255 : Int32) < x2) ∧ Arv Z h b kb .byte (3 : Int32) [(.int (x0.toInt8.toInt32)), (.int (x1.toInt8.toInt32)), (.int (x2.toInt8.toInt32))] (.int (0 : Int32))) ∨ (r = (0 : Int32) ∧ (255 : Int32) < x0) ∨ (r = (1 : Int32) ∧ (255 : Int32) < x1) ∨ (r = (2 : Int32) ∧ (255 : Int32) < x2))
theorem rm_cmp5_3 (l : Launch) (Z : State) (a0 : Array Value) (hw : ∀ d ∈ tables_1, d.before a0 Z = true) (ws : List Jvm.Cond) (a : Addr) (b : Addr) (ka : ClassId) (kb : ClassId) (x0 : Int32) (x1 : Int32) (x2 : Int32) (h0 : Heap) (n0 : Nat) (Z0 : n0 ≤ h0.size) (VA : Arv Z h0 a ka .char (3 : Int32) [(.int x0), (.int x1), (.int x2)] (.int (0 : Int32))) (VB : Arv Z h0 b kb .byte (3 : Int32) [(.int (0 : Int32)), (.int (0 : Int32)), (.int (0 : Int32))] (.int (0 : Int32))) (gb : n0 ≤ b) (nab : a ≠ b) :
    Met l y_24 k24 7 (some .int) ws r_cmp5_3 #[(.ref a), (.int (0 : Int32)), (.ref b), (.int (0 : Int32)), (.int (3 : Int32))] Z h0 (Q_cmp5_3 Z a b ka kb x0 x1 x2 h0 n0) := by
  refine MetFree.of_bodySF (plainFor_of_name pn_3) hisR ?_
  intro p e s mt args below meth cd s₁ Bd hml0 hP hK
  obtain ⟨hA, hZ, hh⟩ := hP
  have hx := Bd.exec
  have hby := Bd.bytes
  have hml : cd.maxLocals = 7 := hml0
  have hlk : meth.locks = false := BodyLoose.notSynchronized Bd
  have hrt := Bd.returns
  have X0 : Stand p l e r_cmp5_3 s mt args below meth cd s₁ [] 0 0 := Stand.of_body Bd
  have e0 : s₁.heap = h0 := by rw [← hh, Bd.state]; rfl
  have N0 := Fr.nil n0
  show Win p e below (Ends s (Q_cmp5_3 Z a b ka kb x0 x1 x2 h0 n0) r_cmp5_3.cells r_cmp5_3.slots) s₁ (entryFrame mt args 7)
  rw [hA, ef_cmp5_3]
  refine w_iconst X0 hx hby d24_0 ?_
  refine Win.st ?_ (fun tq kq => XS.istore X0.here hx rfl (hb hby d24_1) rfl (l' := #[.val (.ref a), .val (.int (0 : Int32)), .val (.ref b), .val (.int (0 : Int32)), .val (.int (3 : Int32)), .val (.int (0 : Int32)), .unset]) rfl kq)
  refine w_iload X0 hx hby d24_3 rfl ?_
  refine w_iload X0 hx hby d24_5 rfl ?_
  refine Win.st ?_ (fun tq kq => XS.icmpNo X0.here hx rfl (hb hby d24_7) rfl (tlt (by decide : (0 : Int32) < (3 : Int32))).2.1 kq)
  refine w_aloadN X0 hx hby d24_10 rfl rfl ?_
  refine w_iloadN X0 hx hby d24_11 rfl ?_
  show Win _ _ _ _ s₁ (mkF mt 12 #[.val (.ref a), .val (.int (0 : Int32)), .val (.ref b), .val (.int (0 : Int32)), .val (.int (3 : Int32)), .val (.int (0 : Int32)), .unset] [(.int (0 : Int32)), (.ref a)])
  refine Win.st ?_ (own_cald (g := (mkF mt 12 #[.val (.ref a), .val (.int (0 : Int32)), .val (.ref b), .val (.int (0 : Int32)), .val (.int (3 : Int32)), .val (.int (0 : Int32)), .unset] [(.int (0 : Int32)), (.ref a)])) X0 hx hZ e0 VA (j := (0 : Int32)) (v := (.int x0)) (by decide) (by decide) rfl rfl rfl (hb hby d24_12))
  show Win _ _ _ _ s₁ (mkF mt 13 #[.val (.ref a), .val (.int (0 : Int32)), .val (.ref b), .val (.int (0 : Int32)), .val (.int (3 : Int32)), .val (.int (0 : Int32)), .unset] [(.int x0)])
  refine Win.st ?_ (fun tq kq => XS.istore X0.here hx rfl (hb hby d24_13) rfl (l' := #[.val (.ref a), .val (.int (0 : Int32)), .val (.ref b), .val (.int (0 : Int32)), .val (.int (3 : Int32)), .val (.int (0 : Int32)), .val (.int x0)]) rfl kq)
  refine w_iload X0 hx hby d24_15 rfl ?_
  refine w_sipush X0 hx hby d24_17 ?_
  by_cases hc20 : (255 : Int32) < x0
  · refine Win.st ?_ (fun tq kq => XS.icmpNo X0.here hx rfl (hb hby d24_20) rfl (tlt hc20).2.2.2 kq)
    refine w_iload X0 hx hby d24_23 rfl ?_
    show Win _ _ _ _ s₁ (mkF mt 25 #[.val (.ref a), .val (.int (0 : Int32)), .val (.ref b), .val (.int (0 : Int32)), .val (.int (3 : Int32)), .val (.int (0 : Int32)), .val (.int x0)] [(.int (0 : Int32))])
    exact Win.ret X0 hx hlk e0 hrt rfl (Or.inl ⟨rfl, Or.inl rfl, _, rfl⟩) (hb hby d24_25) (by decide) (by decide) ⟨_, rfl, N0, (Keep.refl h0 [b]), Or.inr (Or.inl ⟨rfl, hc20⟩)⟩
  · refine Win.st ?_ (fun tq kq => XS.icmpYes X0.here hx rfl (pc0 := 20) (pc' := 26) rfl (hb hby d24_20) rfl (flt hc20).2.2.2 (by decide) (by decide) kq)
    refine w_aloadN X0 hx hby d24_26 rfl rfl ?_
    refine w_iloadN X0 hx hby d24_27 rfl ?_
    refine w_iload X0 hx hby d24_28 rfl ?_
    refine Win.st ?_ (fun tq kq => XS.i2b X0.here hx rfl (hb hby d24_30) rfl kq)
    show Win _ _ _ _ s₁ (mkF mt 31 #[.val (.ref a), .val (.int (0 : Int32)), .val (.ref b), .val (.int (0 : Int32)), .val (.int (3 : Int32)), .val (.int (0 : Int32)), .val (.int x0)] [(.int (x0.toInt8.toInt32)), (.int (0 : Int32)), (.ref b)])
    obtain ⟨T233, h233, L233, X233, N233, e233, kp233, V233, st233⟩ := own_bast (g := (mkF mt 31 #[.val (.ref a), .val (.int (0 : Int32)), .val (.ref b), .val (.int (0 : Int32)), .val (.int (3 : Int32)), .val (.int (0 : Int32)), .val (.int x0)] [(.int (x0.toInt8.toInt32)), (.int (0 : Int32)), (.ref b)])) X0 hx hZ e0 N0 gb VB (j := (0 : Int32)) (by decide) (by decide) (i := 0) rfl (by simp) rfl rfl (hb hby d24_31)
    rw [own_b8] at V233
    replace V233 : Arv Z h233 b kb .byte (3 : Int32) ([(.int (x0.toInt8.toInt32)), (.int (0 : Int32)), (.int (0 : Int32))]) (.int (0 : Int32)) := V233
    have f234_27 := VA.keep kp233 (ninS nab nin0)
    have K236 : Keep h0 h233 [b] := Keep.trans (Keep.refl h0 [b]) kp233 (allS (Or.inl (List.mem_of_getElem? (i := 0) rfl)) all0)
    refine Win.st ?_ st233
    show Win _ _ _ _ T233 (mkF mt 32 #[.val (.ref a), .val (.int (0 : Int32)), .val (.ref b), .val (.int (0 : Int32)), .val (.int (3 : Int32)), .val (.int (0 : Int32)), .val (.int x0)] [])
    refine Win.st ?_ (fun tq kq => XS.iinc X233.here hx rfl (hb hby d24_32) rfl (l' := #[.val (.ref a), .val (.int (1 : Int32)), .val (.ref b), .val (.int (0 : Int32)), .val (.int (3 : Int32)), .val (.int (0 : Int32)), .val (.int x0)]) rfl kq)
    show Win _ _ _ _ T233 (mkF mt 35 #[.val (.ref a), .val (.int (1 : Int32)), .val (.ref b), .val (.int (0 : Int32)), .val (.int (3 : Int32)), .val (.int (0 : Int32)), .val (.int x0)] [])
    refine Win.st ?_ (fun tq kq => XS.iinc X233.here hx rfl (hb hby d24_35) rfl (l' := #[.val (.ref a), .val (.int (1 : Int32)), .val (.ref b), .val (.int (1 : Int32)), .val (.int (3 : Int32)), .val (.int (0 : Int32)), .val (.int x0)]) rfl kq)
    show Win _ _ _ _ T233 (mkF mt 38 #[.val (.ref a), .val (.int (1 : Int32)), .val (.ref b), .val (.int (1 : Int32)), .val (.int (3 : Int32)), .val (.int (0 : Int32)), .val (.int x0)] [])
    refine Win.st ?_ (fun tq kq => XS.iinc X233.here hx rfl (hb hby d24_38) rfl (l' := #[.val (.ref a), .val (.int (1 : Int32)), .val (.ref b), .val (.int (1 : Int32)), .val (.int (3 : Int32)), .val (.int (1 : Int32)), .val (.int x0)]) rfl kq)
    show Win _ _ _ _ T233 (mkF mt 41 #[.val (.ref a), .val (.int (1 : Int32)), .val (.ref b), .val (.int (1 : Int32)), .val (.int (3 : Int32)), .val (.int (1 : Int32)), .val (.int x0)] [])
    refine Win.st ?_ (fun tq kq => XS.goto X233.here hx rfl (pc0 := 41) (pc' := 3) rfl (hb hby d24_41) (by decide) (by decide) kq)
    refine w_iload X233 hx hby d24_3 rfl ?_
    refine w_iload X233 hx hby d24_5 rfl ?_
    refine Win.st ?_ (fun tq kq => XS.icmpNo X233.here hx rfl (hb hby d24_7) rfl (tlt (by decide : (1 : Int32) < (3 : Int32))).2.1 kq)
    refine w_aloadN X233 hx hby d24_10 rfl rfl ?_
    refine w_iloadN X233 hx hby d24_11 rfl ?_
    show Win _ _ _ _ T233 (mkF mt 12 #[.val (.ref a), .val (.int (1 : Int32)), .val (.ref b), .val (.int (1 : Int32)), .val (.int (3 : Int32)), .val (.int (1 : Int32)), .val (.int x0)] [(.int (1 : Int32)), (.ref a)])
    refine Win.st ?_ (own_cald (g := (mkF mt 12 #[.val (.ref a), .val (.int (1 : Int32)), .val (.ref b), .val (.int (1 : Int32)), .val (.int (3 : Int32)), .val (.int (1 : Int32)), .val (.int x0)] [(.int (1 : Int32)), (.ref a)])) X233 hx hZ e233 f234_27 (j := (1 : Int32)) (v := (.int x1)) (by decide) (by decide) rfl rfl rfl (hb hby d24_12))
    show Win _ _ _ _ T233 (mkF mt 13 #[.val (.ref a), .val (.int (1 : Int32)), .val (.ref b), .val (.int (1 : Int32)), .val (.int (3 : Int32)), .val (.int (1 : Int32)), .val (.int x0)] [(.int x1)])
    refine Win.st ?_ (fun tq kq => XS.istore X233.here hx rfl (hb hby d24_13) rfl (l' := #[.val (.ref a), .val (.int (1 : Int32)), .val (.ref b), .val (.int (1 : Int32)), .val (.int (3 : Int32)), .val (.int (1 : Int32)), .val (.int x1)]) rfl kq)
    refine w_iload X233 hx hby d24_15 rfl ?_
    refine w_sipush X233 hx hby d24_17 ?_
    by_cases hc20_237 : (255 : Int32) < x1
    · refine Win.st ?_ (fun tq kq => XS.icmpNo X233.here hx rfl (hb hby d24_20) rfl (tlt hc20_237).2.2.2 kq)
      refine w_iload X233 hx hby d24_23 rfl ?_
      show Win _ _ _ _ T233 (mkF mt 25 #[.val (.ref a), .val (.int (1 : Int32)), .val (.ref b), .val (.int (1 : Int32)), .val (.int (3 : Int32)), .val (.int (1 : Int32)), .val (.int x1)] [(.int (1 : Int32))])
      exact Win.ret X233 hx hlk e233 hrt rfl (Or.inl ⟨rfl, Or.inl rfl, _, rfl⟩) (hb hby d24_25) (by decide) (by decide) ⟨_, rfl, N233, K236, Or.inr (Or.inr (Or.inl ⟨rfl, hc20_237⟩))⟩
    · refine Win.st ?_ (fun tq kq => XS.icmpYes X233.here hx rfl (pc0 := 20) (pc' := 26) rfl (hb hby d24_20) rfl (flt hc20_237).2.2.2 (by decide) (by decide) kq)
      refine w_aloadN X233 hx hby d24_26 rfl rfl ?_
      refine w_iloadN X233 hx hby d24_27 rfl ?_
      refine w_iload X233 hx hby d24_28 rfl ?_
      refine Win.st ?_ (fun tq kq => XS.i2b X233.here hx rfl (hb hby d24_30) rfl kq)
      show Win _ _ _ _ T233 (mkF mt 31 #[.val (.ref a), .val (.int (1 : Int32)), .val (.ref b), .val (.int (1 : Int32)), .val (.int (3 : Int32)), .val (.int (1 : Int32)), .val (.int x1)] [(.int (x1.toInt8.toInt32)), (.int (1 : Int32)), (.ref b)])
      obtain ⟨T238, h238, L238, X238, N238, e238, kp238, V238, st238⟩ := own_bast (g := (mkF mt 31 #[.val (.ref a), .val (.int (1 : Int32)), .val (.ref b), .val (.int (1 : Int32)), .val (.int (3 : Int32)), .val (.int (1 : Int32)), .val (.int x1)] [(.int (x1.toInt8.toInt32)), (.int (1 : Int32)), (.ref b)])) X233 hx hZ e233 N233 gb V233 (j := (1 : Int32)) (by decide) (by decide) (i := 1) rfl (by simp) rfl rfl (hb hby d24_31)
      rw [own_b8] at V238
      replace V238 : Arv Z h238 b kb .byte (3 : Int32) ([(.int (x0.toInt8.toInt32)), (.int (x1.toInt8.toInt32)), (.int (0 : Int32))]) (.int (0 : Int32)) := V238
      have f239_64 := f234_27.keep kp238 (ninS nab nin0)
      have K241 : Keep h0 h238 [b] := Keep.trans K236 kp238 (allS (Or.inl (List.mem_of_getElem? (i := 0) rfl)) all0)
      refine Win.st ?_ st238
      show Win _ _ _ _ T238 (mkF mt 32 #[.val (.ref a), .val (.int (1 : Int32)), .val (.ref b), .val (.int (1 : Int32)), .val (.int (3 : Int32)), .val (.int (1 : Int32)), .val (.int x1)] [])
      refine Win.st ?_ (fun tq kq => XS.iinc X238.here hx rfl (hb hby d24_32) rfl (l' := #[.val (.ref a), .val (.int (2 : Int32)), .val (.ref b), .val (.int (1 : Int32)), .val (.int (3 : Int32)), .val (.int (1 : Int32)), .val (.int x1)]) rfl kq)
      show Win _ _ _ _ T238 (mkF mt 35 #[.val (.ref a), .val (.int (2 : Int32)), .val (.ref b), .val (.int (1 : Int32)), .val (.int (3 : Int32)), .val (.int (1 : Int32)), .val (.int x1)] [])
      refine Win.st ?_ (fun tq kq => XS.iinc X238.here hx rfl (hb hby d24_35) rfl (l' := #[.val (.ref a), .val (.int (2 : Int32)), .val (.ref b), .val (.int (2 : Int32)), .val (.int (3 : Int32)), .val (.int (1 : Int32)), .val (.int x1)]) rfl kq)
      show Win _ _ _ _ T238 (mkF mt 38 #[.val (.ref a), .val (.int (2 : Int32)), .val (.ref b), .val (.int (2 : Int32)), .val (.int (3 : Int32)), .val (.int (1 : Int32)), .val (.int x1)] [])
      refine Win.st ?_ (fun tq kq => XS.iinc X238.here hx rfl (hb hby d24_38) rfl (l' := #[.val (.ref a), .val (.int (2 : Int32)), .val (.ref b), .val (.int (2 : Int32)), .val (.int (3 : Int32)), .val (.int (2 : Int32)), .val (.int x1)]) rfl kq)
      show Win _ _ _ _ T238 (mkF mt 41 #[.val (.ref a), .val (.int (2 : Int32)), .val (.ref b), .val (.int (2 : Int32)), .val (.int (3 : Int32)), .val (.int (2 : Int32)), .val (.int x1)] [])
      refine Win.st ?_ (fun tq kq => XS.goto X238.here hx rfl (pc0 := 41) (pc' := 3) rfl (hb hby d24_41) (by decide) (by decide) kq)
      refine w_iload X238 hx hby d24_3 rfl ?_
      refine w_iload X238 hx hby d24_5 rfl ?_
      refine Win.st ?_ (fun tq kq => XS.icmpNo X238.here hx rfl (hb hby d24_7) rfl (tlt (by decide : (2 : Int32) < (3 : Int32))).2.1 kq)
      refine w_aloadN X238 hx hby d24_10 rfl rfl ?_
      refine w_iloadN X238 hx hby d24_11 rfl ?_
      show Win _ _ _ _ T238 (mkF mt 12 #[.val (.ref a), .val (.int (2 : Int32)), .val (.ref b), .val (.int (2 : Int32)), .val (.int (3 : Int32)), .val (.int (2 : Int32)), .val (.int x1)] [(.int (2 : Int32)), (.ref a)])
      refine Win.st ?_ (own_cald (g := (mkF mt 12 #[.val (.ref a), .val (.int (2 : Int32)), .val (.ref b), .val (.int (2 : Int32)), .val (.int (3 : Int32)), .val (.int (2 : Int32)), .val (.int x1)] [(.int (2 : Int32)), (.ref a)])) X238 hx hZ e238 f239_64 (j := (2 : Int32)) (v := (.int x2)) (by decide) (by decide) rfl rfl rfl (hb hby d24_12))
      show Win _ _ _ _ T238 (mkF mt 13 #[.val (.ref a), .val (.int (2 : Int32)), .val (.ref b), .val (.int (2 : Int32)), .val (.int (3 : Int32)), .val (.int (2 : Int32)), .val (.int x1)] [(.int x2)])
      refine Win.st ?_ (fun tq kq => XS.istore X238.here hx rfl (hb hby d24_13) rfl (l' := #[.val (.ref a), .val (.int (2 : Int32)), .val (.ref b), .val (.int (2 : Int32)), .val (.int (3 : Int32)), .val (.int (2 : Int32)), .val (.int x2)]) rfl kq)
      refine w_iload X238 hx hby d24_15 rfl ?_
      refine w_sipush X238 hx hby d24_17 ?_
      by_cases hc20_242 : (255 : Int32) < x2
      · refine Win.st ?_ (fun tq kq => XS.icmpNo X238.here hx rfl (hb hby d24_20) rfl (tlt hc20_242).2.2.2 kq)
        refine w_iload X238 hx hby d24_23 rfl ?_
        show Win _ _ _ _ T238 (mkF mt 25 #[.val (.ref a), .val (.int (2 : Int32)), .val (.ref b), .val (.int (2 : Int32)), .val (.int (3 : Int32)), .val (.int (2 : Int32)), .val (.int x2)] [(.int (2 : Int32))])
        exact Win.ret X238 hx hlk e238 hrt rfl (Or.inl ⟨rfl, Or.inl rfl, _, rfl⟩) (hb hby d24_25) (by decide) (by decide) ⟨_, rfl, N238, K241, Or.inr (Or.inr (Or.inr (⟨rfl, hc20_242⟩)))⟩
      · refine Win.st ?_ (fun tq kq => XS.icmpYes X238.here hx rfl (pc0 := 20) (pc' := 26) rfl (hb hby d24_20) rfl (flt hc20_242).2.2.2 (by decide) (by decide) kq)
        refine w_aloadN X238 hx hby d24_26 rfl rfl ?_
        refine w_iloadN X238 hx hby d24_27 rfl ?_
        refine w_iload X238 hx hby d24_28 rfl ?_
        refine Win.st ?_ (fun tq kq => XS.i2b X238.here hx rfl (hb hby d24_30) rfl kq)
        show Win _ _ _ _ T238 (mkF mt 31 #[.val (.ref a), .val (.int (2 : Int32)), .val (.ref b), .val (.int (2 : Int32)), .val (.int (3 : Int32)), .val (.int (2 : Int32)), .val (.int x2)] [(.int (x2.toInt8.toInt32)), (.int (2 : Int32)), (.ref b)])
        obtain ⟨T243, h243, L243, X243, N243, e243, kp243, V243, st243⟩ := own_bast (g := (mkF mt 31 #[.val (.ref a), .val (.int (2 : Int32)), .val (.ref b), .val (.int (2 : Int32)), .val (.int (3 : Int32)), .val (.int (2 : Int32)), .val (.int x2)] [(.int (x2.toInt8.toInt32)), (.int (2 : Int32)), (.ref b)])) X238 hx hZ e238 N238 gb V238 (j := (2 : Int32)) (by decide) (by decide) (i := 2) rfl (by simp) rfl rfl (hb hby d24_31)
        rw [own_b8] at V243
        replace V243 : Arv Z h243 b kb .byte (3 : Int32) ([(.int (x0.toInt8.toInt32)), (.int (x1.toInt8.toInt32)), (.int (x2.toInt8.toInt32))]) (.int (0 : Int32)) := V243
        have K246 : Keep h0 h243 [b] := Keep.trans K241 kp243 (allS (Or.inl (List.mem_of_getElem? (i := 0) rfl)) all0)
        refine Win.st ?_ st243
        show Win _ _ _ _ T243 (mkF mt 32 #[.val (.ref a), .val (.int (2 : Int32)), .val (.ref b), .val (.int (2 : Int32)), .val (.int (3 : Int32)), .val (.int (2 : Int32)), .val (.int x2)] [])
        refine Win.st ?_ (fun tq kq => XS.iinc X243.here hx rfl (hb hby d24_32) rfl (l' := #[.val (.ref a), .val (.int (3 : Int32)), .val (.ref b), .val (.int (2 : Int32)), .val (.int (3 : Int32)), .val (.int (2 : Int32)), .val (.int x2)]) rfl kq)
        show Win _ _ _ _ T243 (mkF mt 35 #[.val (.ref a), .val (.int (3 : Int32)), .val (.ref b), .val (.int (2 : Int32)), .val (.int (3 : Int32)), .val (.int (2 : Int32)), .val (.int x2)] [])
        refine Win.st ?_ (fun tq kq => XS.iinc X243.here hx rfl (hb hby d24_35) rfl (l' := #[.val (.ref a), .val (.int (3 : Int32)), .val (.ref b), .val (.int (3 : Int32)), .val (.int (3 : Int32)), .val (.int (2 : Int32)), .val (.int x2)]) rfl kq)
        show Win _ _ _ _ T243 (mkF mt 38 #[.val (.ref a), .val (.int (3 : Int32)), .val (.ref b), .val (.int (3 : Int32)), .val (.int (3 : Int32)), .val (.int (2 : Int32)), .val (.int x2)] [])
        refine Win.st ?_ (fun tq kq => XS.iinc X243.here hx rfl (hb hby d24_38) rfl (l' := #[.val (.ref a), .val (.int (3 : Int32)), .val (.ref b), .val (.int (3 : Int32)), .val (.int (3 : Int32)), .val (.int (3 : Int32)), .val (.int x2)]) rfl kq)
        show Win _ _ _ _ T243 (mkF mt 41 #[.val (.ref a), .val (.int (3 : Int32)), .val (.ref b), .val (.int (3 : Int32)), .val (.int (3 : Int32)), .val (.int (3 : Int32)), .val (.int x2)] [])
        refine Win.st ?_ (fun tq kq => XS.goto X243.here hx rfl (pc0 := 41) (pc' := 3) rfl (hb hby d24_41) (by decide) (by decide) kq)
        refine w_iload X243 hx hby d24_3 rfl ?_
        refine w_iload X243 hx hby d24_5 rfl ?_
        refine Win.st ?_ (fun tq kq => XS.icmpYes X243.here hx rfl (pc0 := 7) (pc' := 44) rfl (hb hby d24_7) rfl (flt (Int32.lt_irrefl)).2.1 (by decide) (by decide) kq)
        refine w_iload X243 hx hby d24_44 rfl ?_
        show Win _ _ _ _ T243 (mkF mt 46 #[.val (.ref a), .val (.int (3 : Int32)), .val (.ref b), .val (.int (3 : Int32)), .val (.int (3 : Int32)), .val (.int (3 : Int32)), .val (.int x2)] [(.int (3 : Int32))])
        exact Win.ret X243 hx hlk e243 hrt rfl (Or.inl ⟨rfl, Or.inl rfl, _, rfl⟩) (hb hby d24_46) (by decide) (by decide) ⟨_, rfl, N243, K246, Or.inl ⟨rfl, ⟨hc20, hc20_237, hc20_242⟩, V243⟩⟩
abbrev r_cmp3_3 : Room := { frames := 3, cells := 2, slots := 9, locals := 40 }
theorem ef_cmp3_3 (mt : MethodId) (a : Addr) : entryFrame mt #[(.ref a), (.int (0 : Int32)), (.int (3 : Int32))] 6 = mkF mt 0 #[.val (.ref a), .val (.int (0 : Int32)), .val (.int (3 : Int32)), .unset, .unset, .unset] [] := by first | (simp [entryFrame, mkF, argsToLocals, Value.category]; done) | rfl
def Q_cmp3_3 (Z : State) (a : Addr) (ka : ClassId) (x0 : Int32) (x1 : Int32) (x2 : Int32) (h0 : Heap) (n0 : Nat) (v : Option Value) (h : Heap) (L : List Loc) : Prop := ∃ r : Addr, v = some (.ref r) ∧ Fr n0 L ∧ Keep h0 h [] ∧ n0 ≤ r ∧ h0.size ≤ r ∧ ∃ k : ClassId, ((¬ (255 : Int32) < x0 ∧ ¬ (255 : Int32) < x1 ∧ ¬ (255 : Int32) < x2) ∧ Arv Z h r k .byte (3 : Int32) [(.int (x0.toInt8.toInt32)), (.int (x1.toInt8.toInt32)), (.int (x2.toInt8.toInt32))] (.int (0 : Int32))) ∨ Arv Z h r k .byte (6 : Int32) [(.int (own_b0 x0)), (.int (own_b1 x0)), (.int (own_b0 x1)), (.int (own_b1 x1)), (.int (own_b0 x2)), (.int (own_b1 x2))] (.int (0 : Int32))
theorem rm_cmp3_3 (l : Launch) (Z : State) (a0 : Array Value) (hw : ∀ d ∈ tables_1, d.before a0 Z = true) (ws : List Jvm.Cond) (a : Addr) (ka : ClassId) (x0 : Int32) (x1 : Int32) (x2 : Int32) (h0 : Heap) (n0 : Nat) (Z0 : n0 ≤ h0.size) (VA : Arv Z h0 a ka .char (3 : Int32) [(.int x0), (.int x1), (.int x2)] (.int (0 : Int32))) (hX0 : own_C x0) (hX1 : own_C x1) (hX2 : own_C x2) (ST : own_St Z) (O : Old Z n0 h0) :
    Met l y_25 k25 6 (some (.array .byte)) ws r_cmp3_3 #[(.ref a), (.int (0 : Int32)), (.int (3 : Int32))] Z h0 (Q_cmp3_3 Z a ka x0 x1 x2 h0 n0) := by
  refine MetFree.of_bodySF (plainFor_of_name pn_3) hisR ?_
  intro p e s mt args below meth cd s₁ Bd hml0 hP hK
  obtain ⟨hA, hZ, hh⟩ := hP
  have hx := Bd.exec
  have hby := Bd.bytes
  have hml : cd.maxLocals = 6 := hml0
  have hown : s.vm.findClass "java/lang/StringUTF16" = some mt.cls := findClass_of_methodNamed Bd.named
  have hlk : meth.locks = false := BodyLoose.notSynchronized Bd
  have hrt := Bd.returns
  have X0 : Stand p l e r_cmp3_3 s mt args below meth cd s₁ [] 0 0 := Stand.of_body Bd
  have e0 : s₁.heap = h0 := by rw [← hh, Bd.state]; rfl
  have N0 := Fr.nil n0
  show Win p e below (Ends s (Q_cmp3_3 Z a ka x0 x1 x2 h0 n0) r_cmp3_3.cells r_cmp3_3.slots) s₁ (entryFrame mt args 6)
  rw [hA, ef_cmp3_3]
  obtain ⟨cs, u, S0, hcs, S1, hu, S2, S3, S4⟩ := id ST
  refine w_iloadN X0 hx hby d25_0 rfl ?_
  obtain ⟨T247, h247, k247, X247, e247, E247, A247, st247⟩ := newP X0 hx hZ (ow hw 19 rfl) e0 (g := (mkF mt 1 #[.val (.ref a), .val (.int (0 : Int32)), .val (.int (3 : Int32)), .unset, .unset, .unset] [(.int (3 : Int32))])) rfl (hb hby d25_1) rfl (by decide) (cap := 3) (by decide) (by decide) (by decide) (by decide)
  obtain ⟨b247, gq247⟩ : ∃ z, z = h0.size := ⟨_, rfl⟩
  rw [← gq247] at A247 st247
  have ne248 : a ≠ b247 := own_new gq247 VA.lt
  have g249 : n0 ≤ b247 := own_newle Z0 gq247
  have z250 : h0.size ≤ b247 := own_newle (Keep.refl h0 []).1 gq247
  have ke247 := own_kext E247
  replace X247 : Stand p l e _ s mt args below meth cd T247 _ 1 3 := X247
  have f251_10 := O.keep ke247 all0
  have f251_11 := VA.keep ke247 nin0
  have Z252 : n0 ≤ h247.size := Nat.le_trans Z0 ke247.1
  have K253 : Keep h0 h247 [] := Keep.trans (Keep.refl h0 []) ke247 all0
  have V247 : Arv Z h247 b247 k247 .byte (3 : Int32) [(.int (0 : Int32)), (.int (0 : Int32)), (.int (0 : Int32))] (.int (0 : Int32)) := (Arv.new A247 (by decide)).pad (pad_rep [] (.int (0 : Int32)) 3)
  refine Win.st ?_ st247
  show Win _ _ _ _ T247 (mkF mt 3 #[.val (.ref a), .val (.int (0 : Int32)), .val (.int (3 : Int32)), .unset, .unset, .unset] [(.ref b247)])
  refine Win.st ?_ (fun tq kq => XS.astoreN X247.here hx rfl (hb hby d25_3) rfl rfl (l' := #[.val (.ref a), .val (.int (0 : Int32)), .val (.int (3 : Int32)), .val (.ref b247), .unset, .unset]) rfl kq)
  refine w_aloadN X247 hx hby d25_4 rfl rfl ?_
  refine w_iloadN X247 hx hby d25_5 rfl ?_
  refine w_aloadN X247 hx hby d25_6 rfl rfl ?_
  refine w_iconst X247 hx hby d25_7 ?_
  refine w_iloadN X247 hx hby d25_8 rfl ?_
  show Win _ _ _ _ T247 (mkF mt 9 #[.val (.ref a), .val (.int (0 : Int32)), .val (.int (3 : Int32)), .val (.ref b247), .unset, .unset] [(.int (3 : Int32)), (.int (0 : Int32)), (.ref b247), (.int (0 : Int32)), (.ref a)])
  obtain ⟨v254, _, ⟨T254, L254, k254, n254⟩, -, X254, ⟨Lc254, hQ254, l254, rfl, rfl⟩, st254⟩ := Jvm.LawKit.callS X247 hx (y := y_24) hown (mvT hZ (ow hw 234 rfl)) (mvT hZ (ow hw 235 rfl)) (mvT hZ (ow hw 232 rfl)) (mvT hZ (ow hw 236 rfl)) (by decide) (backOf (W := 0) (rm_cmp5_3 l Z a0 hw [] a b247 ka k247 x0 x1 x2 h247 n0 Z252 f251_11 V247 g249 ne248) hZ (ow hw 236 rfl) (ow hw 232 rfl) (by decide) (by decide)) (g := (mkF mt 9 #[.val (.ref a), .val (.int (0 : Int32)), .val (.int (3 : Int32)), .val (.ref b247), .unset, .unset] [(.int (3 : Int32)), (.int (0 : Int32)), (.ref b247), (.int (0 : Int32)), (.ref a)])) rfl (by rw [hml]; rfl) (argsL := [(.ref a), (.int (0 : Int32)), (.ref b247), (.int (0 : Int32)), (.int (3 : Int32))]) (rest := []) (lenOf pd_15 rfl) rfl (wz rfl) (hb hby d25_9) (fun _ _ => ⟨rfl, e247, (by decide : 1 + 0 ≤ _), (by decide : 3 + 0 ≤ _)⟩)
  replace X254 : Stand p l e _ s mt args below meth cd T254 L254 1 3 := X254
  obtain ⟨h254, e254⟩ : ∃ z, T254.heap = z := ⟨_, rfl⟩
  rw [e254] at hQ254
  obtain ⟨q5, rfl, Nq254, K254, hor⟩ := hQ254
  have N254 := own_fr (L := L254) l254 N0 Nq254
  have f255_30 := f251_10.keep K254 (allS g249 all0)
  have f255_31 := f251_11.keep K254 (ninS ne248 nin0)
  have Z256 : n0 ≤ h254.size := Nat.le_trans Z252 K254.1
  have K257 : Keep h0 h254 [] := Keep.trans K253 K254 (allS (Or.inr z250) all0)
  refine Win.st ?_ st254
  show Win _ _ _ _ T254 (mkF mt 12 #[.val (.ref a), .val (.int (0 : Int32)), .val (.int (3 : Int32)), .val (.ref b247), .unset, .unset] [(.int q5)])
  rcases hor with ⟨rfl, hall, Vb⟩ | ⟨rfl, hbig⟩ | ⟨rfl, hbig⟩ | ⟨rfl, hbig⟩
  · show Win _ _ _ _ T254 (mkF mt 12 #[.val (.ref a), .val (.int (0 : Int32)), .val (.int (3 : Int32)), .val (.ref b247), .unset, .unset] [(.int (3 : Int32))])
    refine Win.st ?_ (fun tq kq => XS.istore X254.here hx rfl (hb hby d25_12) rfl (l' := #[.val (.ref a), .val (.int (0 : Int32)), .val (.int (3 : Int32)), .val (.ref b247), .val (.int (3 : Int32)), .unset]) rfl kq)
    refine w_iload X254 hx hby d25_14 rfl ?_
    refine w_iloadN X254 hx hby d25_16 rfl ?_
    refine Win.st ?_ (fun tq kq => XS.icmpYes X254.here hx rfl (pc0 := 17) (pc' := 57) rfl (hb hby d25_17) rfl (teq (rfl : (3 : Int32) = (3 : Int32))).1 (by decide) (by decide) kq)
    refine w_aloadN X254 hx hby d25_57 rfl rfl ?_
    show Win _ _ _ _ T254 (mkF mt 58 #[.val (.ref a), .val (.int (0 : Int32)), .val (.int (3 : Int32)), .val (.ref b247), .val (.int (3 : Int32)), .unset] [(.ref b247)])
    exact Win.ret X254 hx hlk e254 hrt rfl (Or.inr (Or.inr (Or.inr (Or.inr ⟨rfl, rfl, rfl⟩)))) (hb hby d25_58) (by decide) (by decide) ⟨_, rfl, N254, K257, g249, z250, _, Or.inl ⟨hall, Vb⟩⟩
  · show Win _ _ _ _ T254 (mkF mt 12 #[.val (.ref a), .val (.int (0 : Int32)), .val (.int (3 : Int32)), .val (.ref b247), .unset, .unset] [(.int (0 : Int32))])
    refine Win.st ?_ (fun tq kq => XS.istore X254.here hx rfl (hb hby d25_12) rfl (l' := #[.val (.ref a), .val (.int (0 : Int32)), .val (.int (3 : Int32)), .val (.ref b247), .val (.int (0 : Int32)), .unset]) rfl kq)
    refine w_iload X254 hx hby d25_14 rfl ?_
    refine w_iloadN X254 hx hby d25_16 rfl ?_
    refine Win.st ?_ (fun tq kq => XS.icmpNo X254.here hx rfl (hb hby d25_17) rfl (feq (by decide : ¬ ((0 : Int32) = (3 : Int32)))).1 kq)
    refine w_aloadN X254 hx hby d25_20 rfl rfl ?_
    refine w_iloadN X254 hx hby d25_21 rfl ?_
    refine w_iloadN X254 hx hby d25_22 rfl ?_
    show Win _ _ _ _ T254 (mkF mt 23 #[.val (.ref a), .val (.int (0 : Int32)), .val (.int (3 : Int32)), .val (.ref b247), .val (.int (0 : Int32)), .unset] [(.int (3 : Int32)), (.int (0 : Int32)), (.ref a)])
    obtain ⟨v258, _, ⟨T258, L258, k258, n258⟩, -, X258, ⟨Lc258, hQ258, l258, rfl, rfl⟩, st258⟩ := Jvm.LawKit.callS X254 hx (y := y_23) hown (mvT hZ (ow hw 253 rfl)) (mvT hZ (ow hw 254 rfl)) (mvT hZ (ow hw 232 rfl)) (mvT hZ (ow hw 255 rfl)) (by decide) (backOf (W := 0) (rm_utb_3 l Z a0 hw [] a ka x0 x1 x2 h254 n0 Z256 f255_31 ST f255_30) hZ (ow hw 255 rfl) (ow hw 232 rfl) (by decide) (by decide)) (g := (mkF mt 23 #[.val (.ref a), .val (.int (0 : Int32)), .val (.int (3 : Int32)), .val (.ref b247), .val (.int (0 : Int32)), .unset] [(.int (3 : Int32)), (.int (0 : Int32)), (.ref a)])) rfl (by rw [hml]; rfl) (argsL := [(.ref a), (.int (0 : Int32)), (.int (3 : Int32))]) (rest := []) (lenOf pd_16 rfl) rfl (wz rfl) (hb hby d25_23) (fun _ _ => ⟨rfl, e254, (by decide : 1 + 1 ≤ _), (by decide : 3 + 6 ≤ _)⟩)
    replace X258 : Stand p l e _ s mt args below meth cd T258 L258 2 9 := X258
    obtain ⟨h258, e258⟩ : ∃ z, T258.heap = z := ⟨_, rfl⟩
    rw [e258] at hQ258
    obtain ⟨tt, rfl, Nq258, K258, gt258, zt258, kt, V258⟩ := hQ258
    have N258 := own_fr (L := L258) l258 N254 Nq258
    have f259_60 := f255_30.keep K258 all0
    have Z260 : n0 ≤ h258.size := Nat.le_trans Z256 K258.1
    have K261 : Keep h0 h258 [] := Keep.trans K257 K258 all0
    have szt : h0.size ≤ tt := Nat.le_trans K257.1 zt258
    refine Win.st ?_ st258
    show Win _ _ _ _ T258 (mkF mt 26 #[.val (.ref a), .val (.int (0 : Int32)), .val (.int (3 : Int32)), .val (.ref b247), .val (.int (0 : Int32)), .unset] [(.ref tt)])
    refine Win.st ?_ (fun tq kq => XS.astore X258.here hx rfl (hb hby d25_26) rfl rfl (l' := #[.val (.ref a), .val (.int (0 : Int32)), .val (.int (3 : Int32)), .val (.ref b247), .val (.int (0 : Int32)), .val (.ref tt)]) rfl kq)
    refine w_aload X258 hx hby d25_28 rfl rfl ?_
    refine w_iload X258 hx hby d25_30 rfl ?_
    show Win _ _ _ _ T258 (mkF mt 32 #[.val (.ref a), .val (.int (0 : Int32)), .val (.int (3 : Int32)), .val (.ref b247), .val (.int (0 : Int32)), .val (.ref tt)] [(.int (0 : Int32)), (.ref tt)])
    obtain ⟨v262, _, ⟨T262, L262, k262, n262⟩, -, X262, ⟨Lc262, hQ262, l262, rfl, rfl⟩, st262⟩ := Jvm.LawKit.callS X258 hx (y := y_12) hown (mvT hZ (ow hw 269 rfl)) (mvT hZ (ow hw 270 rfl)) (mvT hZ (ow hw 232 rfl)) (mvT hZ (ow hw 271 rfl)) (by decide) (backOf (W := 0) (rm_getc l Z a0 hw [] tt kt 6 [(.int (own_b0 x0)), (.int (own_b1 x0)), (.int (own_b0 x1)), (.int (own_b1 x1)), (.int (own_b0 x2)), (.int (own_b1 x2))] 0 x0 h258 n0 Z260 V258 (by decide) (by decide) (by decide) rfl rfl hX0 ST f259_60) hZ (ow hw 271 rfl) (ow hw 232 rfl) (by decide) (by decide)) (g := (mkF mt 32 #[.val (.ref a), .val (.int (0 : Int32)), .val (.int (3 : Int32)), .val (.ref b247), .val (.int (0 : Int32)), .val (.ref tt)] [(.int (0 : Int32)), (.ref tt)])) rfl (by rw [hml]; rfl) (argsL := [(.ref tt), (.int (0 : Int32))]) (rest := []) (lenOf pd_7 rfl) rfl (wz rfl) (hb hby d25_32) (fun _ _ => ⟨rfl, e258, (by decide : 2 + 0 ≤ _), (by decide : 9 + 0 ≤ _)⟩)
    replace X262 : Stand p l e _ s mt args below meth cd T262 L262 2 9 := X262
    obtain ⟨rfl, Nq262, eh262⟩ := hQ262
    have N262 := own_fr (L := L262) l262 N258 Nq262
    refine Win.st ?_ st262
    refine w_sipush X262 hx hby d25_35 ?_
    refine Win.st ?_ (fun tq kq => XS.icmpYes X262.here hx rfl (pc0 := 38) (pc' := 54) rfl (hb hby d25_38) rfl (tlt hbig).2.2.1 (by decide) (by decide) kq)
    refine w_aload X262 hx hby d25_54 rfl rfl ?_
    show Win _ _ _ _ T262 (mkF mt 56 #[.val (.ref a), .val (.int (0 : Int32)), .val (.int (3 : Int32)), .val (.ref b247), .val (.int (0 : Int32)), .val (.ref tt)] [(.ref tt)])
    exact Win.ret X262 hx hlk eh262 hrt rfl (Or.inr (Or.inr (Or.inr (Or.inr ⟨rfl, rfl, rfl⟩)))) (hb hby d25_56) (by decide) (by decide) ⟨_, rfl, N262, K261, gt258, szt, _, Or.inr V258⟩
  · show Win _ _ _ _ T254 (mkF mt 12 #[.val (.ref a), .val (.int (0 : Int32)), .val (.int (3 : Int32)), .val (.ref b247), .unset, .unset] [(.int (1 : Int32))])
    refine Win.st ?_ (fun tq kq => XS.istore X254.here hx rfl (hb hby d25_12) rfl (l' := #[.val (.ref a), .val (.int (0 : Int32)), .val (.int (3 : Int32)), .val (.ref b247), .val (.int (1 : Int32)), .unset]) rfl kq)
    refine w_iload X254 hx hby d25_14 rfl ?_
    refine w_iloadN X254 hx hby d25_16 rfl ?_
    refine Win.st ?_ (fun tq kq => XS.icmpNo X254.here hx rfl (hb hby d25_17) rfl (feq (by decide : ¬ ((1 : Int32) = (3 : Int32)))).1 kq)
    refine w_aloadN X254 hx hby d25_20 rfl rfl ?_
    refine w_iloadN X254 hx hby d25_21 rfl ?_
    refine w_iloadN X254 hx hby d25_22 rfl ?_
    show Win _ _ _ _ T254 (mkF mt 23 #[.val (.ref a), .val (.int (0 : Int32)), .val (.int (3 : Int32)), .val (.ref b247), .val (.int (1 : Int32)), .unset] [(.int (3 : Int32)), (.int (0 : Int32)), (.ref a)])
    obtain ⟨v263, _, ⟨T263, L263, k263, n263⟩, -, X263, ⟨Lc263, hQ263, l263, rfl, rfl⟩, st263⟩ := Jvm.LawKit.callS X254 hx (y := y_23) hown (mvT hZ (ow hw 253 rfl)) (mvT hZ (ow hw 254 rfl)) (mvT hZ (ow hw 232 rfl)) (mvT hZ (ow hw 255 rfl)) (by decide) (backOf (W := 0) (rm_utb_3 l Z a0 hw [] a ka x0 x1 x2 h254 n0 Z256 f255_31 ST f255_30) hZ (ow hw 255 rfl) (ow hw 232 rfl) (by decide) (by decide)) (g := (mkF mt 23 #[.val (.ref a), .val (.int (0 : Int32)), .val (.int (3 : Int32)), .val (.ref b247), .val (.int (1 : Int32)), .unset] [(.int (3 : Int32)), (.int (0 : Int32)), (.ref a)])) rfl (by rw [hml]; rfl) (argsL := [(.ref a), (.int (0 : Int32)), (.int (3 : Int32))]) (rest := []) (lenOf pd_16 rfl) rfl (wz rfl) (hb hby d25_23) (fun _ _ => ⟨rfl, e254, (by decide : 1 + 1 ≤ _), (by decide : 3 + 6 ≤ _)⟩)
    replace X263 : Stand p l e _ s mt args below meth cd T263 L263 2 9 := X263
    obtain ⟨h263, e263⟩ : ∃ z, T263.heap = z := ⟨_, rfl⟩
    rw [e263] at hQ263
    obtain ⟨tt, rfl, Nq263, K263, gt263, zt263, kt, V263⟩ := hQ263
    have N263 := own_fr (L := L263) l263 N254 Nq263
    have f264_96 := f255_30.keep K263 all0
    have Z265 : n0 ≤ h263.size := Nat.le_trans Z256 K263.1
    have K266 : Keep h0 h263 [] := Keep.trans K257 K263 all0
    have szt : h0.size ≤ tt := Nat.le_trans K257.1 zt263
    refine Win.st ?_ st263
    show Win _ _ _ _ T263 (mkF mt 26 #[.val (.ref a), .val (.int (0 : Int32)), .val (.int (3 : Int32)), .val (.ref b247), .val (.int (1 : Int32)), .unset] [(.ref tt)])
    refine Win.st ?_ (fun tq kq => XS.astore X263.here hx rfl (hb hby d25_26) rfl rfl (l' := #[.val (.ref a), .val (.int (0 : Int32)), .val (.int (3 : Int32)), .val (.ref b247), .val (.int (1 : Int32)), .val (.ref tt)]) rfl kq)
    refine w_aload X263 hx hby d25_28 rfl rfl ?_
    refine w_iload X263 hx hby d25_30 rfl ?_
    show Win _ _ _ _ T263 (mkF mt 32 #[.val (.ref a), .val (.int (0 : Int32)), .val (.int (3 : Int32)), .val (.ref b247), .val (.int (1 : Int32)), .val (.ref tt)] [(.int (1 : Int32)), (.ref tt)])
    obtain ⟨v267, _, ⟨T267, L267, k267, n267⟩, -, X267, ⟨Lc267, hQ267, l267, rfl, rfl⟩, st267⟩ := Jvm.LawKit.callS X263 hx (y := y_12) hown (mvT hZ (ow hw 269 rfl)) (mvT hZ (ow hw 270 rfl)) (mvT hZ (ow hw 232 rfl)) (mvT hZ (ow hw 271 rfl)) (by decide) (backOf (W := 0) (rm_getc l Z a0 hw [] tt kt 6 [(.int (own_b0 x0)), (.int (own_b1 x0)), (.int (own_b0 x1)), (.int (own_b1 x1)), (.int (own_b0 x2)), (.int (own_b1 x2))] 1 x1 h263 n0 Z265 V263 (by decide) (by decide) (by decide) rfl rfl hX1 ST f264_96) hZ (ow hw 271 rfl) (ow hw 232 rfl) (by decide) (by decide)) (g := (mkF mt 32 #[.val (.ref a), .val (.int (0 : Int32)), .val (.int (3 : Int32)), .val (.ref b247), .val (.int (1 : Int32)), .val (.ref tt)] [(.int (1 : Int32)), (.ref tt)])) rfl (by rw [hml]; rfl) (argsL := [(.ref tt), (.int (1 : Int32))]) (rest := []) (lenOf pd_7 rfl) rfl (wz rfl) (hb hby d25_32) (fun _ _ => ⟨rfl, e263, (by decide : 2 + 0 ≤ _), (by decide : 9 + 0 ≤ _)⟩)
    replace X267 : Stand p l e _ s mt args below meth cd T267 L267 2 9 := X267
    obtain ⟨rfl, Nq267, eh267⟩ := hQ267
    have N267 := own_fr (L := L267) l267 N263 Nq267
    refine Win.st ?_ st267
    refine w_sipush X267 hx hby d25_35 ?_
    refine Win.st ?_ (fun tq kq => XS.icmpYes X267.here hx rfl (pc0 := 38) (pc' := 54) rfl (hb hby d25_38) rfl (tlt hbig).2.2.1 (by decide) (by decide) kq)
    refine w_aload X267 hx hby d25_54 rfl rfl ?_
    show Win _ _ _ _ T267 (mkF mt 56 #[.val (.ref a), .val (.int (0 : Int32)), .val (.int (3 : Int32)), .val (.ref b247), .val (.int (1 : Int32)), .val (.ref tt)] [(.ref tt)])
    exact Win.ret X267 hx hlk eh267 hrt rfl (Or.inr (Or.inr (Or.inr (Or.inr ⟨rfl, rfl, rfl⟩)))) (hb hby d25_56) (by decide) (by decide) ⟨_, rfl, N267, K266, gt263, szt, _, Or.inr V263⟩
  · show Win _ _ _ _ T254 (mkF mt 12 #[.val (.ref a), .val (.int (0 : Int32)), .val (.int (3 : Int32)), .val (.ref b247), .unset, .unset] [(.int (2 : Int32))])
    refine Win.st ?_ (fun tq kq => XS.istore X254.here hx rfl (hb hby d25_12) rfl (l' := #[.val (.ref a), .val (.int (0 : Int32)), .val (.int (3 : Int32)), .val (.ref b247), .val (.int (2 : Int32)), .unset]) rfl kq)
    refine w_iload X254 hx hby d25_14 rfl ?_
    refine w_iloadN X254 hx hby d25_16 rfl ?_
    refine Win.st ?_ (fun tq kq => XS.icmpNo X254.here hx rfl (hb hby d25_17) rfl (feq (by decide : ¬ ((2 : Int32) = (3 : Int32)))).1 kq)
    refine w_aloadN X254 hx hby d25_20 rfl rfl ?_
    refine w_iloadN X254 hx hby d25_21 rfl ?_
    refine w_iloadN X254 hx hby d25_22 rfl ?_
    show Win _ _ _ _ T254 (mkF mt 23 #[.val (.ref a), .val (.int (0 : Int32)), .val (.int (3 : Int32)), .val (.ref b247), .val (.int (2 : Int32)), .unset] [(.int (3 : Int32)), (.int (0 : Int32)), (.ref a)])
    obtain ⟨v268, _, ⟨T268, L268, k268, n268⟩, -, X268, ⟨Lc268, hQ268, l268, rfl, rfl⟩, st268⟩ := Jvm.LawKit.callS X254 hx (y := y_23) hown (mvT hZ (ow hw 253 rfl)) (mvT hZ (ow hw 254 rfl)) (mvT hZ (ow hw 232 rfl)) (mvT hZ (ow hw 255 rfl)) (by decide) (backOf (W := 0) (rm_utb_3 l Z a0 hw [] a ka x0 x1 x2 h254 n0 Z256 f255_31 ST f255_30) hZ (ow hw 255 rfl) (ow hw 232 rfl) (by decide) (by decide)) (g := (mkF mt 23 #[.val (.ref a), .val (.int (0 : Int32)), .val (.int (3 : Int32)), .val (.ref b247), .val (.int (2 : Int32)), .unset] [(.int (3 : Int32)), (.int (0 : Int32)), (.ref a)])) rfl (by rw [hml]; rfl) (argsL := [(.ref a), (.int (0 : Int32)), (.int (3 : Int32))]) (rest := []) (lenOf pd_16 rfl) rfl (wz rfl) (hb hby d25_23) (fun _ _ => ⟨rfl, e254, (by decide : 1 + 1 ≤ _), (by decide : 3 + 6 ≤ _)⟩)
    replace X268 : Stand p l e _ s mt args below meth cd T268 L268 2 9 := X268
    obtain ⟨h268, e268⟩ : ∃ z, T268.heap = z := ⟨_, rfl⟩
    rw [e268] at hQ268
    obtain ⟨tt, rfl, Nq268, K268, gt268, zt268, kt, V268⟩ := hQ268
    have N268 := own_fr (L := L268) l268 N254 Nq268
    have f269_132 := f255_30.keep K268 all0
    have Z270 : n0 ≤ h268.size := Nat.le_trans Z256 K268.1
    have K271 : Keep h0 h268 [] := Keep.trans K257 K268 all0
    have szt : h0.size ≤ tt := Nat.le_trans K257.1 zt268
    refine Win.st ?_ st268
    show Win _ _ _ _ T268 (mkF mt 26 #[.val (.ref a), .val (.int (0 : Int32)), .val (.int (3 : Int32)), .val (.ref b247), .val (.int (2 : Int32)), .unset] [(.ref tt)])
    refine Win.st ?_ (fun tq kq => XS.astore X268.here hx rfl (hb hby d25_26) rfl rfl (l' := #[.val (.ref a), .val (.int (0 : Int32)), .val (.int (3 : Int32)), .val (.ref b247), .val (.int (2 : Int32)), .val (.ref tt)]) rfl kq)
    refine w_aload X268 hx hby d25_28 rfl rfl ?_
    refine w_iload X268 hx hby d25_30 rfl ?_
    show Win _ _ _ _ T268 (mkF mt 32 #[.val (.ref a), .val (.int (0 : Int32)), .val (.int (3 : Int32)), .val (.ref b247), .val (.int (2 : Int32)), .val (.ref tt)] [(.int (2 : Int32)), (.ref tt)])
    obtain ⟨v272, _, ⟨T272, L272, k272, n272⟩, -, X272, ⟨Lc272, hQ272, l272, rfl, rfl⟩, st272⟩ := Jvm.LawKit.callS X268 hx (y := y_12) hown (mvT hZ (ow hw 269 rfl)) (mvT hZ (ow hw 270 rfl)) (mvT hZ (ow hw 232 rfl)) (mvT hZ (ow hw 271 rfl)) (by decide) (backOf (W := 0) (rm_getc l Z a0 hw [] tt kt 6 [(.int (own_b0 x0)), (.int (own_b1 x0)), (.int (own_b0 x1)), (.int (own_b1 x1)), (.int (own_b0 x2)), (.int (own_b1 x2))] 2 x2 h268 n0 Z270 V268 (by decide) (by decide) (by decide) rfl rfl hX2 ST f269_132) hZ (ow hw 271 rfl) (ow hw 232 rfl) (by decide) (by decide)) (g := (mkF mt 32 #[.val (.ref a), .val (.int (0 : Int32)), .val (.int (3 : Int32)), .val (.ref b247), .val (.int (2 : Int32)), .val (.ref tt)] [(.int (2 : Int32)), (.ref tt)])) rfl (by rw [hml]; rfl) (argsL := [(.ref tt), (.int (2 : Int32))]) (rest := []) (lenOf pd_7 rfl) rfl (wz rfl) (hb hby d25_32) (fun _ _ => ⟨rfl, e268, (by decide : 2 + 0 ≤ _), (by decide : 9 + 0 ≤ _)⟩)
    replace X272 : Stand p l e _ s mt args below meth cd T272 L272 2 9 := X272
    obtain ⟨rfl, Nq272, eh272⟩ := hQ272
    have N272 := own_fr (L := L272) l272 N268 Nq272
    refine Win.st ?_ st272
    refine w_sipush X272 hx hby d25_35 ?_
    refine Win.st ?_ (fun tq kq => XS.icmpYes X272.here hx rfl (pc0 := 38) (pc' := 54) rfl (hb hby d25_38) rfl (tlt hbig).2.2.1 (by decide) (by decide) kq)
    refine w_aload X272 hx hby d25_54 rfl rfl ?_
    show Win _ _ _ _ T272 (mkF mt 56 #[.val (.ref a), .val (.int (0 : Int32)), .val (.int (3 : Int32)), .val (.ref b247), .val (.int (2 : Int32)), .val (.ref tt)] [(.ref tt)])
    exact Win.ret X272 hx hlk eh272 hrt rfl (Or.inr (Or.inr (Or.inr (Or.inr ⟨rfl, rfl, rfl⟩)))) (hb hby d25_56) (by decide) (by decide) ⟨_, rfl, N272, K271, gt268, szt, _, Or.inr V268⟩
abbrev r_cfa_3_0 : Room := { frames := 0, cells := 0, slots := 0, locals := 0 }
theorem ef_cfa_3_0 (mt : MethodId) (b : Addr) : entryFrame mt #[(.ref b), (.int (3 : Int32))] 2 = mkF mt 0 #[.val (.ref b), .val (.int (3 : Int32))] [] := by first | (simp [entryFrame, mkF, argsToLocals, Value.category]; done) | rfl
def Q_cfa_3_0 (Z : State) (b : Addr) (kb : ClassId) (vs : List Value) (h0 : Heap) (n0 : Nat) (v : Option Value) (h : Heap) (L : List Loc) : Prop := v = some (.int (0 : Int32)) ∧ Fr n0 L ∧ h = h0
theorem rm_cfa_3_0 (l : Launch) (Z : State) (a0 : Array Value) (hw : ∀ d ∈ tables_1, d.before a0 Z = true) (ws : List Jvm.Cond) (b : Addr) (kb : ClassId) (vs : List Value) (h0 : Heap) (n0 : Nat) (Z0 : n0 ≤ h0.size) (VB : Arv Z h0 b kb .byte (3 : Int32) vs (.int (0 : Int32))) :
    Met l y_26 k26 2 (some .byte) ws r_cfa_3_0 #[(.ref b), (.int (3 : Int32))] Z h0 (Q_cfa_3_0 Z b kb vs h0 n0) := by
  refine MetFree.of_bodySF (plainFor_of_name pn_3) hisR ?_
  intro p e s mt args below meth cd s₁ Bd hml0 hP hK
  obtain ⟨hA, hZ, hh⟩ := hP
  have hx := Bd.exec
  have hby := Bd.bytes
  have hml : cd.maxLocals = 2 := hml0
  have hlk : meth.locks = false := BodyLoose.notSynchronized Bd
  have hrt := Bd.returns
  have X0 : Stand p l e r_cfa_3_0 s mt args below meth cd s₁ [] 0 0 := Stand.of_body Bd
  have e0 : s₁.heap = h0 := by rw [← hh, Bd.state]; rfl
  have N0 := Fr.nil n0
  show Win p e below (Ends s (Q_cfa_3_0 Z b kb vs h0 n0) r_cfa_3_0.cells r_cfa_3_0.slots) s₁ (entryFrame mt args 2)
  rw [hA, ef_cfa_3_0]
  refine w_iloadN X0 hx hby d26_0 rfl ?_
  refine w_aloadN X0 hx hby d26_1 rfl rfl ?_
  refine Win.st ?_ (own_alen (g := (mkF mt 2 #[.val (.ref b), .val (.int (3 : Int32))] [(.ref b), (.int (3 : Int32))])) X0 hx hZ e0 VB rfl rfl (hb hby d26_2))
  show Win _ _ _ _ s₁ (mkF mt 3 #[.val (.ref b), .val (.int (3 : Int32))] [(.int (3 : Int32)), (.int (3 : Int32))])
  refine Win.st ?_ (fun tq kq => XS.isub X0.here hx rfl (hb hby d26_3) rfl kq)
  refine w_bipush X0 hx hby d26_4 ?_
  refine Win.st ?_ (fun tq kq => XS.iushr X0.here hx rfl (hb hby d26_6) rfl kq)
  show Win _ _ _ _ s₁ (mkF mt 7 #[.val (.ref b), .val (.int (3 : Int32))] [(.int ((((3 : Int32) - (3 : Int32)).toUInt32 >>> ((31 : Int32) &&& 31).toUInt32).toInt32))])
  refine Win.st ?_ (fun tq kq => XS.i2b X0.here hx rfl (hb hby d26_7) rfl kq)
  show Win _ _ _ _ s₁ (mkF mt 8 #[.val (.ref b), .val (.int (3 : Int32))] [(.int (((((3 : Int32) - (3 : Int32)).toUInt32 >>> ((31 : Int32) &&& 31).toUInt32).toInt32).toInt8.toInt32))])
  exact Win.retN X0 hx hlk e0 (t := .byte) (z' := (0 : Int32)) hrt (by simp) (hb hby d26_8) (by decide) (by decide) (by decide) ⟨rfl, N0, rfl⟩
abbrev r_cfa_3_1 : Room := { frames := 0, cells := 0, slots := 0, locals := 0 }
theorem ef_cfa_3_1 (mt : MethodId) (b : Addr) : entryFrame mt #[(.ref b), (.int (3 : Int32))] 2 = mkF mt 0 #[.val (.ref b), .val (.int (3 : Int32))] [] := by first | (simp [entryFrame, mkF, argsToLocals, Value.category]; done) | rfl
def Q_cfa_3_1 (Z : State) (b : Addr) (kb : ClassId) (vs : List Value) (h0 : Heap) (n0 : Nat) (v : Option Value) (h : Heap) (L : List Loc) : Prop := v = some (.int (1 : Int32)) ∧ Fr n0 L ∧ h = h0
theorem rm_cfa_3_1 (l : Launch) (Z : State) (a0 : Array Value) (hw : ∀ d ∈ tables_1, d.before a0 Z = true) (ws : List Jvm.Cond) (b : Addr) (kb : ClassId) (vs : List Value) (h0 : Heap) (n0 : Nat) (Z0 : n0 ≤ h0.size) (VB : Arv Z h0 b kb .byte (6 : Int32) vs (.int (0 : Int32))) :
    Met l y_26 k26 2 (some .byte) ws r_cfa_3_1 #[(.ref b), (.int (3 : Int32))] Z h0 (Q_cfa_3_1 Z b kb vs h0 n0) := by
  refine MetFree.of_bodySF (plainFor_of_name pn_3) hisR ?_
  intro p e s mt args below meth cd s₁ Bd hml0 hP hK
  obtain ⟨hA, hZ, hh⟩ := hP
  have hx := Bd.exec
  have hby := Bd.bytes
  have hml : cd.maxLocals = 2 := hml0
  have hlk : meth.locks = false := BodyLoose.notSynchronized Bd
  have hrt := Bd.returns
  have X0 : Stand p l e r_cfa_3_1 s mt args below meth cd s₁ [] 0 0 := Stand.of_body Bd
  have e0 : s₁.heap = h0 := by rw [← hh, Bd.state]; rfl
  have N0 := Fr.nil n0
  show Win p e below (Ends s (Q_cfa_3_1 Z b kb vs h0 n0) r_cfa_3_1.cells r_cfa_3_1.slots) s₁ (entryFrame mt args 2)
  rw [hA, ef_cfa_3_1]
  refine w_iloadN X0 hx hby d26_0 rfl ?_
  refine w_aloadN X0 hx hby d26_1 rfl rfl ?_
  refine Win.st ?_ (own_alen (g := (mkF mt 2 #[.val (.ref b), .val (.int (3 : Int32))] [(.ref b), (.int (3 : Int32))])) X0 hx hZ e0 VB rfl rfl (hb hby d26_2))
  show Win _ _ _ _ s₁ (mkF mt 3 #[.val (.ref b), .val (.int (3 : Int32))] [(.int (6 : Int32)), (.int (3 : Int32))])
  refine Win.st ?_ (fun tq kq => XS.isub X0.here hx rfl (hb hby d26_3) rfl kq)
  refine w_bipush X0 hx hby d26_4 ?_
  refine Win.st ?_ (fun tq kq => XS.iushr X0.here hx rfl (hb hby d26_6) rfl kq)
  show Win _ _ _ _ s₁ (mkF mt 7 #[.val (.ref b), .val (.int (3 : Int32))] [(.int ((((3 : Int32) - (6 : Int32)).toUInt32 >>> ((31 : Int32) &&& 31).toUInt32).toInt32))])
  refine Win.st ?_ (fun tq kq => XS.i2b X0.here hx rfl (hb hby d26_7) rfl kq)
  show Win _ _ _ _ s₁ (mkF mt 8 #[.val (.ref b), .val (.int (3 : Int32))] [(.int (((((3 : Int32) - (6 : Int32)).toUInt32 >>> ((31 : Int32) &&& 31).toUInt32).toInt32).toInt8.toInt32))])
  exact Win.retN X0 hx hlk e0 (t := .byte) (z' := (1 : Int32)) hrt (by simp) (hb hby d26_8) (by decide) (by decide) (by decide) ⟨rfl, N0, rfl⟩
abbrev r_si6_3 : Room := { frames := 4, cells := 2, slots := 9, locals := 57 }
theorem ef_si6_3 (mt : MethodId) (a : Addr) (c : Addr) : entryFrame mt #[(.ref a), (.ref c), (.int (0 : Int32)), (.int (3 : Int32)), .null] 6 = mkF mt 0 #[.val (.ref a), .val (.ref c), .val (.int (0 : Int32)), .val (.int (3 : Int32)), .val .null, .unset] [] := by first | (simp [entryFrame, mkF, argsToLocals, Value.category]; done) | rfl
def Q_si6_3 (Z : State) (a : Addr) (c : Addr) (kc : ClassId) (x0 : Int32) (x1 : Int32) (x2 : Int32) (h0 : Heap) (n0 : Nat) (v : Option Value) (h : Heap) (L : List Loc) : Prop := v = none ∧ Fr n0 L ∧ Keep h0 h [a] ∧ ∃ (t : Addr) (k : ClassId) (z : Int32) (vs : List Value) (cd : Int32), Fld Z h a "java/lang/String" "value" "[B" (.ref t) ∧ Fld Z h a "java/lang/String" "coder" "B" (.int cd) ∧ Arv Z h t k .byte z vs (.int (0 : Int32)) ∧ own_S cd z 3 (own_f x0 x1 x2) vs
theorem rm_si6_3 (l : Launch) (Z : State) (a0 : Array Value) (hw : ∀ d ∈ tables_1, d.before a0 Z = true) (ws : List Jvm.Cond) (a : Addr) (c : Addr) (kc : ClassId) (x0 : Int32) (x1 : Int32) (x2 : Int32) (h0 : Heap) (n0 : Nat) (Z0 : n0 ≤ h0.size) (E : Exa Z h0 a "java/lang/String") (Fv : Fld Z h0 a "java/lang/String" "value" "[B" .null) (Fc : Fld Z h0 a "java/lang/String" "coder" "B" (.int (0 : Int32))) (ga : n0 ≤ a) (ST : own_St Z) (O : Old Z n0 h0) (VA : Arv Z h0 c kc .char (3 : Int32) [(.int x0), (.int x1), (.int x2)] (.int (0 : Int32))) (nca : c ≠ a) (hX0 : own_C x0) (hX1 : own_C x1) (hX2 : own_C x2) :
    Met l y_27 k27 6 none ws r_si6_3 #[(.ref a), (.ref c), (.int (0 : Int32)), (.int (3 : Int32)), .null] Z h0 (Q_si6_3 Z a c kc x0 x1 x2 h0 n0) := by
  refine MetFree.of_bodySF (plainFor_of_name pn_0) hisR ?_
  intro p e s mt args below meth cd s₁ Bd hml0 hP hK
  obtain ⟨hA, hZ, hh⟩ := hP
  have hx := Bd.exec
  have hby := Bd.bytes
  have hml : cd.maxLocals = 6 := hml0
  have hown : s.vm.findClass "java/lang/String" = some mt.cls := findClass_of_methodNamed Bd.named
  have hnm := (name_of_methodNamed Bd.named Bd.method).1
  have hlk : meth.locks = false := BodyLoose.notSynchronized Bd
  have hrt := Bd.returns
  have X0 : Stand p l e r_si6_3 s mt args below meth cd s₁ [] 0 0 := Stand.of_body Bd
  have e0 : s₁.heap = h0 := by rw [← hh, Bd.state]; rfl
  have N0 := Fr.nil n0
  show Win p e below (Ends s (Q_si6_3 Z a c kc x0 x1 x2 h0 n0) r_si6_3.cells r_si6_3.slots) s₁ (entryFrame mt args 6)
  rw [hA, ef_si6_3]
  obtain ⟨cs, u, S0, hcs, S1, hu, S2, S3, S4⟩ := id ST
  refine w_aloadN X0 hx hby d27_0 rfl rfl ?_
  show Win _ _ _ _ s₁ (mkF mt 1 #[.val (.ref a), .val (.ref c), .val (.int (0 : Int32)), .val (.int (3 : Int32)), .val .null, .unset] [(.ref a)])
  obtain ⟨T273, X273, e273, st273⟩ := initO X0 hx hZ hown (ow hw 15 rfl) (ow hw 16 rfl) (ow hw 17 rfl) e0 (g := (mkF mt 1 #[.val (.ref a), .val (.ref c), .val (.int (0 : Int32)), .val (.int (3 : Int32)), .val .null, .unset] [(.ref a)])) rfl (by rw [hml]; rfl) rfl (hb hby d27_1) (by decide) (W := 0) (by show 2 * 0 + _ ≤ _; exact Nat.le_of_eq rfl) (by decide)
  refine Win.st ?_ st273
  refine w_iloadN X273 hx hby d27_4 rfl ?_
  refine Win.st ?_ (fun tq kq => XS.ifYes X273.here hx rfl (pc0 := 5) (pc' := 27) rfl (hb hby d27_5) rfl ((if0 _ _).trans (feq (by decide : ¬ ((3 : Int32) = (0 : Int32)))).2) (by decide) (by decide) kq)
  show Win _ _ _ _ T273 (mkF mt 27 #[.val (.ref a), .val (.ref c), .val (.int (0 : Int32)), .val (.int (3 : Int32)), .val .null, .unset] [])
  obtain ⟨T274, X274, e274, st274⟩ := getS2 X273 hx hZ hown (host := "") (Or.inl (ow hw 71 rfl)) Via.refl e273 (S0.ext O.2) (g := (mkF mt 27 #[.val (.ref a), .val (.ref c), .val (.int (0 : Int32)), .val (.int (3 : Int32)), .val .null, .unset] [])) rfl (hb hby d27_27)
  refine Win.st ?_ st274
  show Win _ _ _ _ T274 (mkF mt 30 #[.val (.ref a), .val (.ref c), .val (.int (0 : Int32)), .val (.int (3 : Int32)), .val .null, .unset] [(.int cs)])
  refine Win.st ?_ (fun tq kq => XS.ifNo X274.here hx rfl (hb hby d27_30) rfl ((if0 _ _).trans (feq hcs).1) kq)
  refine w_aloadN X274 hx hby d27_33 rfl rfl ?_
  refine w_iloadN X274 hx hby d27_34 rfl ?_
  refine w_iloadN X274 hx hby d27_35 rfl ?_
  show Win _ _ _ _ T274 (mkF mt 36 #[.val (.ref a), .val (.ref c), .val (.int (0 : Int32)), .val (.int (3 : Int32)), .val .null, .unset] [(.int (3 : Int32)), (.int (0 : Int32)), (.ref c)])
  obtain ⟨v275, _, ⟨T275, L275, k275, n275⟩, -, X275, ⟨Lc275, hQ275, l275, rfl, rfl⟩, st275⟩ := Jvm.LawKit.callS X274 hx (y := y_25) hown (mvT hZ (ow hw 230 rfl)) (mvT hZ (ow hw 231 rfl)) (mvT hZ (ow hw 232 rfl)) (mvT hZ (ow hw 233 rfl)) (by decide) (backOf (W := 0) (rm_cmp3_3 l Z a0 hw [] c kc x0 x1 x2 h0 n0 Z0 VA hX0 hX1 hX2 ST O) hZ (ow hw 233 rfl) (ow hw 232 rfl) (by decide) (by decide)) (g := (mkF mt 36 #[.val (.ref a), .val (.ref c), .val (.int (0 : Int32)), .val (.int (3 : Int32)), .val .null, .unset] [(.int (3 : Int32)), (.int (0 : Int32)), (.ref c)])) rfl (by rw [hml]; rfl) (argsL := [(.ref c), (.int (0 : Int32)), (.int (3 : Int32))]) (rest := []) (lenOf pd_16 rfl) rfl (wz rfl) (hb hby d27_36) (fun _ _ => ⟨rfl, e274, (by decide : 0 + 2 ≤ _), (by decide : 0 + 9 ≤ _)⟩)
  replace X275 : Stand p l e _ s mt args below meth cd T275 L275 2 9 := X275
  obtain ⟨h275, e275⟩ : ∃ z, T275.heap = z := ⟨_, rfl⟩
  rw [e275] at hQ275
  obtain ⟨tt, rfl, Nq275, K275, gt275, zt275, kt, hor⟩ := hQ275
  have N275 := own_fr (L := L275) l275 N0 Nq275
  have f276_23 := E.keep K275
  have f276_24 := Fv.keep K275 nin0
  have f276_25 := Fc.keep K275 nin0
  have Z277 : n0 ≤ h275.size := Nat.le_trans Z0 K275.1
  have K278 : Keep h0 h275 [a] := Keep.trans (Keep.refl h0 [a]) K275 all0
  have ne279 : a ≠ tt := Nat.ne_of_lt (Nat.lt_of_lt_of_le E.lt zt275)
  refine Win.st ?_ st275
  show Win _ _ _ _ T275 (mkF mt 39 #[.val (.ref a), .val (.ref c), .val (.int (0 : Int32)), .val (.int (3 : Int32)), .val .null, .unset] [(.ref tt)])
  rcases hor with ⟨hall, Vt⟩ | Vt
  · show Win _ _ _ _ T275 (mkF mt 39 #[.val (.ref a), .val (.ref c), .val (.int (0 : Int32)), .val (.int (3 : Int32)), .val .null, .unset] [(.ref tt)])
    refine Win.st ?_ (fun tq kq => XS.astore X275.here hx rfl (hb hby d27_39) rfl rfl (l' := #[.val (.ref a), .val (.ref c), .val (.int (0 : Int32)), .val (.int (3 : Int32)), .val .null, .val (.ref tt)]) rfl kq)
    refine w_aloadN X275 hx hby d27_41 rfl rfl ?_
    refine w_aload X275 hx hby d27_42 rfl rfl ?_
    refine w_iloadN X275 hx hby d27_44 rfl ?_
    show Win _ _ _ _ T275 (mkF mt 45 #[.val (.ref a), .val (.ref c), .val (.int (0 : Int32)), .val (.int (3 : Int32)), .val .null, .val (.ref tt)] [(.int (3 : Int32)), (.ref tt), (.ref a)])
    obtain ⟨v281, _, ⟨T281, L281, k281, n281⟩, -, X281, ⟨Lc281, hQ281, l281, rfl, rfl⟩, st281⟩ := Jvm.LawKit.callS X275 hx (y := y_26) hown (mvT hZ (ow hw 237 rfl)) (mvT hZ (ow hw 238 rfl)) (mvT hZ (ow hw 232 rfl)) (mvT hZ (ow hw 239 rfl)) (by decide) (backOf (W := 1) (rm_cfa_3_0 l Z a0 hw [] tt kt [(.int (x0.toInt8.toInt32)), (.int (x1.toInt8.toInt32)), (.int (x2.toInt8.toInt32))] h275 n0 Z277 Vt) hZ (ow hw 239 rfl) (ow hw 232 rfl) (by decide) (by decide)) (g := (mkF mt 45 #[.val (.ref a), .val (.ref c), .val (.int (0 : Int32)), .val (.int (3 : Int32)), .val .null, .val (.ref tt)] [(.int (3 : Int32)), (.ref tt), (.ref a)])) rfl (by rw [hml]; rfl) (argsL := [(.ref tt), (.int (3 : Int32))]) (rest := [(.ref a)]) (lenOf pd_17 rfl) rfl (wz rfl) (hb hby d27_45) (fun _ _ => ⟨rfl, e275, (by decide : 2 + 0 ≤ _), (by decide : 9 + 0 ≤ _)⟩)
    replace X281 : Stand p l e _ s mt args below meth cd T281 L281 2 9 := X281
    obtain ⟨rfl, Nq281, eh281⟩ := hQ281
    have N281 := own_fr (L := L281) l281 N275 Nq281
    refine Win.st ?_ st281
    show Win _ _ _ _ T281 (mkF mt 48 #[.val (.ref a), .val (.ref c), .val (.int (0 : Int32)), .val (.int (3 : Int32)), .val .null, .val (.ref tt)] [(.int (0 : Int32)), (.ref a)])
    obtain ⟨T282, h282, X282, e282, W282, st282⟩ := putFN X281 hx hZ hown (ow hw 25 rfl) Via.refl eh281 f276_25 f276_23 (Or.inr ⟨(ow hw 21 rfl), rfl, hnm⟩) (ow hw 5 rfl) (ty := .byte) (v' := (.int (0 : Int32))) (by decide) rfl (by decide) (g := (mkF mt 48 #[.val (.ref a), .val (.ref c), .val (.int (0 : Int32)), .val (.int (3 : Int32)), .val .null, .val (.ref tt)] [(.int (0 : Int32)), (.ref a)])) rfl rfl (hb hby d27_48)
    obtain ⟨L282, X282, N282⟩ := own_hide X282 N281 ga
    have kp282 := Keep.of_wr W282
    have f282_50 := f276_24.other W282 (Or.inr (slot_ne (Or.inr (ow hw 20 rfl)) (Or.inr (ow hw 21 rfl)) (by decide) (t := (.array .byte)) (t' := .byte) (by decide) (by decide)))
    have fw282 := f276_25.same W282
    have f283_53 := f276_23.keep kp282
    have f283_55 := Vt.keep kp282 (ninS (Ne.symm ne279) nin0)
    have K285 : Keep h0 h282 [a] := Keep.trans K278 kp282 (allS (Or.inl (List.mem_of_getElem? (i := 0) rfl)) all0)
    refine Win.st ?_ st282
    refine w_aloadN X282 hx hby d27_51 rfl rfl ?_
    refine w_aload X282 hx hby d27_52 rfl rfl ?_
    show Win _ _ _ _ T282 (mkF mt 54 #[.val (.ref a), .val (.ref c), .val (.int (0 : Int32)), .val (.int (3 : Int32)), .val .null, .val (.ref tt)] [(.ref tt), (.ref a)])
    obtain ⟨T286, h286, X286, e286, W286, st286⟩ := putF X282 hx hZ hown (host := "") (Or.inl (ow hw 24 rfl)) Via.refl e282 f282_50 f283_53 (Or.inr ⟨(ow hw 20 rfl), rfl, hnm⟩) (ow hw 5 rfl) (ty := (.array .byte)) (by decide) rfl rfl (g := (mkF mt 54 #[.val (.ref a), .val (.ref c), .val (.int (0 : Int32)), .val (.int (3 : Int32)), .val .null, .val (.ref tt)] [(.ref tt), (.ref a)])) rfl rfl (hb hby d27_54)
    obtain ⟨L286, X286, N286⟩ := own_hide X286 N282 ga
    have kp286 := Keep.of_wr W286
    have fw286 := f282_50.same W286
    have f286_66 := fw282.other W286 (Or.inr (slot_ne (Or.inr (ow hw 21 rfl)) (Or.inr (ow hw 20 rfl)) (by decide) (t := .byte) (t' := (.array .byte)) (by decide) (by decide)))
    have f287_70 := f283_55.keep kp286 (ninS (Ne.symm ne279) nin0)
    have K289 : Keep h0 h286 [a] := Keep.trans K285 kp286 (allS (Or.inl (List.mem_of_getElem? (i := 0) rfl)) all0)
    refine Win.st ?_ st286
    show Win _ _ _ _ T286 (mkF mt 57 #[.val (.ref a), .val (.ref c), .val (.int (0 : Int32)), .val (.int (3 : Int32)), .val .null, .val (.ref tt)] [])
    exact Win.retV X286 hx hlk e286 hrt (hb hby d27_57) (by decide) (by decide) ⟨rfl, N286, K289, tt, kt, _, _, _, fw286, f286_66, f287_70, own_S0_3 (own_B_of hX0 (hall.1)) (own_B_of hX1 (hall.2.1)) (own_B_of hX2 (hall.2.2))⟩
  · show Win _ _ _ _ T275 (mkF mt 39 #[.val (.ref a), .val (.ref c), .val (.int (0 : Int32)), .val (.int (3 : Int32)), .val .null, .unset] [(.ref tt)])
    refine Win.st ?_ (fun tq kq => XS.astore X275.here hx rfl (hb hby d27_39) rfl rfl (l' := #[.val (.ref a), .val (.ref c), .val (.int (0 : Int32)), .val (.int (3 : Int32)), .val .null, .val (.ref tt)]) rfl kq)
    refine w_aloadN X275 hx hby d27_41 rfl rfl ?_
    refine w_aload X275 hx hby d27_42 rfl rfl ?_
    refine w_iloadN X275 hx hby d27_44 rfl ?_
    show Win _ _ _ _ T275 (mkF mt 45 #[.val (.ref a), .val (.ref c), .val (.int (0 : Int32)), .val (.int (3 : Int32)), .val .null, .val (.ref tt)] [(.int (3 : Int32)), (.ref tt), (.ref a)])
    obtain ⟨v290, _, ⟨T290, L290, k290, n290⟩, -, X290, ⟨Lc290, hQ290, l290, rfl, rfl⟩, st290⟩ := Jvm.LawKit.callS X275 hx (y := y_26) hown (mvT hZ (ow hw 237 rfl)) (mvT hZ (ow hw 238 rfl)) (mvT hZ (ow hw 232 rfl)) (mvT hZ (ow hw 239 rfl)) (by decide) (backOf (W := 1) (rm_cfa_3_1 l Z a0 hw [] tt kt [(.int (own_b0 x0)), (.int (own_b1 x0)), (.int (own_b0 x1)), (.int (own_b1 x1)), (.int (own_b0 x2)), (.int (own_b1 x2))] h275 n0 Z277 Vt) hZ (ow hw 239 rfl) (ow hw 232 rfl) (by decide) (by decide)) (g := (mkF mt 45 #[.val (.ref a), .val (.ref c), .val (.int (0 : Int32)), .val (.int (3 : Int32)), .val .null, .val (.ref tt)] [(.int (3 : Int32)), (.ref tt), (.ref a)])) rfl (by rw [hml]; rfl) (argsL := [(.ref tt), (.int (3 : Int32))]) (rest := [(.ref a)]) (lenOf pd_17 rfl) rfl (wz rfl) (hb hby d27_45) (fun _ _ => ⟨rfl, e275, (by decide : 2 + 0 ≤ _), (by decide : 9 + 0 ≤ _)⟩)
    replace X290 : Stand p l e _ s mt args below meth cd T290 L290 2 9 := X290
    obtain ⟨rfl, Nq290, eh290⟩ := hQ290
    have N290 := own_fr (L := L290) l290 N275 Nq290
    refine Win.st ?_ st290
    show Win _ _ _ _ T290 (mkF mt 48 #[.val (.ref a), .val (.ref c), .val (.int (0 : Int32)), .val (.int (3 : Int32)), .val .null, .val (.ref tt)] [(.int (1 : Int32)), (.ref a)])
    obtain ⟨T291, h291, X291, e291, W291, st291⟩ := putFN X290 hx hZ hown (ow hw 25 rfl) Via.refl eh290 f276_25 f276_23 (Or.inr ⟨(ow hw 21 rfl), rfl, hnm⟩) (ow hw 5 rfl) (ty := .byte) (v' := (.int (1 : Int32))) (by decide) rfl (by decide) (g := (mkF mt 48 #[.val (.ref a), .val (.ref c), .val (.int (0 : Int32)), .val (.int (3 : Int32)), .val .null, .val (.ref tt)] [(.int (1 : Int32)), (.ref a)])) rfl rfl (hb hby d27_48)
    obtain ⟨L291, X291, N291⟩ := own_hide X291 N290 ga
    have kp291 := Keep.of_wr W291
    have f291_91 := f276_24.other W291 (Or.inr (slot_ne (Or.inr (ow hw 20 rfl)) (Or.inr (ow hw 21 rfl)) (by decide) (t := (.array .byte)) (t' := .byte) (by decide) (by decide)))
    have fw291 := f276_25.same W291
    have f292_94 := f276_23.keep kp291
    have f292_96 := Vt.keep kp291 (ninS (Ne.symm ne279) nin0)
    have K294 : Keep h0 h291 [a] := Keep.trans K278 kp291 (allS (Or.inl (List.mem_of_getElem? (i := 0) rfl)) all0)
    refine Win.st ?_ st291
    refine w_aloadN X291 hx hby d27_51 rfl rfl ?_
    refine w_aload X291 hx hby d27_52 rfl rfl ?_
    show Win _ _ _ _ T291 (mkF mt 54 #[.val (.ref a), .val (.ref c), .val (.int (0 : Int32)), .val (.int (3 : Int32)), .val .null, .val (.ref tt)] [(.ref tt), (.ref a)])
    obtain ⟨T295, h295, X295, e295, W295, st295⟩ := putF X291 hx hZ hown (host := "") (Or.inl (ow hw 24 rfl)) Via.refl e291 f291_91 f292_94 (Or.inr ⟨(ow hw 20 rfl), rfl, hnm⟩) (ow hw 5 rfl) (ty := (.array .byte)) (by decide) rfl rfl (g := (mkF mt 54 #[.val (.ref a), .val (.ref c), .val (.int (0 : Int32)), .val (.int (3 : Int32)), .val .null, .val (.ref tt)] [(.ref tt), (.ref a)])) rfl rfl (hb hby d27_54)
    obtain ⟨L295, X295, N295⟩ := own_hide X295 N291 ga
    have kp295 := Keep.of_wr W295
    have fw295 := f291_91.same W295
    have f295_107 := fw291.other W295 (Or.inr (slot_ne (Or.inr (ow hw 21 rfl)) (Or.inr (ow hw 20 rfl)) (by decide) (t := .byte) (t' := (.array .byte)) (by decide) (by decide)))
    have f296_111 := f292_96.keep kp295 (ninS (Ne.symm ne279) nin0)
    have K298 : Keep h0 h295 [a] := Keep.trans K294 kp295 (allS (Or.inl (List.mem_of_getElem? (i := 0) rfl)) all0)
    refine Win.st ?_ st295
    show Win _ _ _ _ T295 (mkF mt 57 #[.val (.ref a), .val (.ref c), .val (.int (0 : Int32)), .val (.int (3 : Int32)), .val .null, .val (.ref tt)] [])
    exact Win.retV X295 hx hlk e295 hrt (hb hby d27_57) (by decide) (by decide) ⟨rfl, N295, K298, tt, kt, _, _, _, fw295, f295_107, f296_111, own_S1_3 hX0 hX1 hX2⟩
abbrev r_si3_3 : Room := { frames := 5, cells := 2, slots := 9, locals := 74 }
theorem ef_si3_3 (mt : MethodId) (a : Addr) (c : Addr) : entryFrame mt #[(.ref a), (.ref c)] 2 = mkF mt 0 #[.val (.ref a), .val (.ref c)] [] := by first | (simp [entryFrame, mkF, argsToLocals, Value.category]; done) | rfl
def Q_si3_3 (Z : State) (a : Addr) (c : Addr) (kc : ClassId) (x0 : Int32) (x1 : Int32) (x2 : Int32) (h0 : Heap) (n0 : Nat) (v : Option Value) (h : Heap) (L : List Loc) : Prop := v = none ∧ Fr n0 L ∧ Keep h0 h [a] ∧ ∃ (t : Addr) (k : ClassId) (z : Int32) (vs : List Value) (cd : Int32), Fld Z h a "java/lang/String" "value" "[B" (.ref t) ∧ Fld Z h a "java/lang/String" "coder" "B" (.int cd) ∧ Arv Z h t k .byte z vs (.int (0 : Int32)) ∧ own_S cd z 3 (own_f x0 x1 x2) vs
theorem rm_si3_3 (l : Launch) (Z : State) (a0 : Array Value) (hw : ∀ d ∈ tables_1, d.before a0 Z = true) (ws : List Jvm.Cond) (a : Addr) (c : Addr) (kc : ClassId) (x0 : Int32) (x1 : Int32) (x2 : Int32) (h0 : Heap) (n0 : Nat) (Z0 : n0 ≤ h0.size) (E : Exa Z h0 a "java/lang/String") (Fv : Fld Z h0 a "java/lang/String" "value" "[B" .null) (Fc : Fld Z h0 a "java/lang/String" "coder" "B" (.int (0 : Int32))) (ga : n0 ≤ a) (ST : own_St Z) (O : Old Z n0 h0) (VA : Arv Z h0 c kc .char (3 : Int32) [(.int x0), (.int x1), (.int x2)] (.int (0 : Int32))) (nca : c ≠ a) (hX0 : own_C x0) (hX1 : own_C x1) (hX2 : own_C x2) :
    Met l y_28 k28 2 none ws r_si3_3 #[(.ref a), (.ref c)] Z h0 (Q_si3_3 Z a c kc x0 x1 x2 h0 n0) := by
  refine MetFree.of_bodySF (plainFor_of_name pn_0) hisR ?_
  intro p e s mt args below meth cd s₁ Bd hml0 hP hK
  obtain ⟨hA, hZ, hh⟩ := hP
  have hx := Bd.exec
  have hby := Bd.bytes
  have hml : cd.maxLocals = 2 := hml0
  have hown : s.vm.findClass "java/lang/String" = some mt.cls := findClass_of_methodNamed Bd.named
  have hlk : meth.locks = false := BodyLoose.notSynchronized Bd
  have hrt := Bd.returns
  have X0 : Stand p l e r_si3_3 s mt args below meth cd s₁ [] 0 0 := Stand.of_body Bd
  have e0 : s₁.heap = h0 := by rw [← hh, Bd.state]; rfl
  have N0 := Fr.nil n0
  show Win p e below (Ends s (Q_si3_3 Z a c kc x0 x1 x2 h0 n0) r_si3_3.cells r_si3_3.slots) s₁ (entryFrame mt args 2)
  rw [hA, ef_si3_3]
  obtain ⟨cs, u, S0, hcs, S1, hu, S2, S3, S4⟩ := id ST
  refine w_aloadN X0 hx hby d28_0 rfl rfl ?_
  refine w_aloadN X0 hx hby d28_1 rfl rfl ?_
  refine w_iconst X0 hx hby d28_2 ?_
  refine w_aloadN X0 hx hby d28_3 rfl rfl ?_
  refine Win.st ?_ (own_alen (g := (mkF mt 4 #[.val (.ref a), .val (.ref c)] [(.ref c), (.int (0 : Int32)), (.ref c), (.ref a)])) X0 hx hZ e0 VA rfl rfl (hb hby d28_4))
  refine Win.st ?_ (fun tq kq => XS.aconstNull X0.here hx rfl (hb hby d28_5) kq)
  show Win _ _ _ _ s₁ (mkF mt 6 #[.val (.ref a), .val (.ref c)] [.null, (.int (3 : Int32)), (.int (0 : Int32)), (.ref c), (.ref a)])
  obtain ⟨v299, _, ⟨T299, L299, k299, n299⟩, -, X299, ⟨Lc299, hQ299, l299, rfl, rfl⟩, st299⟩ := X0.specialBack hx (y := y_27) rfl hown (mvT hZ (ow hw 11 rfl)) (mvT hZ (ow hw 12 rfl)) (mvT hZ (ow hw 14 rfl)) (by decide) (backOf (W := 0) (rm_si6_3 l Z a0 hw [] a c kc x0 x1 x2 h0 n0 Z0 E Fv Fc ga ST O VA nca hX0 hX1 hX2) hZ (ow hw 14 rfl) (ow hw 6 rfl) (by decide) (by decide)) (g := (mkF mt 6 #[.val (.ref a), .val (.ref c)] [.null, (.int (3 : Int32)), (.int (0 : Int32)), (.ref c), (.ref a)])) rfl (by rw [hml]; rfl) (Steps.refl _) (a := a) (argsL := [(.ref c), (.int (0 : Int32)), (.int (3 : Int32)), .null]) (rest := []) (lenOf pd_18 rfl) rfl (wz rfl) (hb hby d28_6) (fun _ _ => ⟨rfl, e0, (by decide : 0 + 2 ≤ _), (by decide : 0 + 9 ≤ _)⟩)
  replace X299 : Stand p l e _ s mt args below meth cd T299 L299 2 9 := X299
  obtain ⟨h299, e299⟩ : ∃ z, T299.heap = z := ⟨_, rfl⟩
  rw [e299] at hQ299
  obtain ⟨rfl, Nq299, K299, hs6⟩ := hQ299
  have N299 := own_fr (L := L299) l299 N0 Nq299
  have K302 : Keep h0 h299 [a] := Keep.trans (Keep.refl h0 [a]) K299 (allS (Or.inl (List.mem_of_getElem? (i := 0) rfl)) all0)
  refine Win.tr ?_ st299
  show Win _ _ _ _ T299 (mkF mt 9 #[.val (.ref a), .val (.ref c)] [])
  exact Win.retV X299 hx hlk e299 hrt (hb hby d28_9) (by decide) (by decide) ⟨rfl, N299, K302, hs6⟩
theorem own_EW {Z : State} {a0 : Array Value} (hw : ∀ d ∈ tables_1, d.before a0 Z = true) : EW Z a0 own_EL := EW.cons (ow hw 99 rfl) (by decide +kernel) (EW.cons (ow hw 100 rfl) (by decide +kernel) (EW.cons (ow hw 207 rfl) (by decide +kernel) (EW.cons (ow hw 18 rfl) (by decide +kernel) (EW.nil))))
theorem d27_8 : decode k27 8 = .ok (.aload_n 0, 1) := by decide +kernel
theorem own_strw {Z : State} {a0 : Array Value} (hw : ∀ d ∈ tables_1, d.before a0 Z = true) : ∀ a ∈ Bundle.stringAtoms, a.before a0 Z = true := fun d hd => by
  simp only [Bundle.stringAtoms, List.mem_cons, List.not_mem_nil, or_false] at hd
  rcases hd with rfl | rfl | rfl | rfl | rfl | rfl | rfl
  · first | exact (ow hw 6 rfl) | exact (ow hw 5 rfl) | exact (ow hw 19 rfl) | exact (ow hw 20 rfl) | exact (ow hw 21 rfl) | exact (ow hw 22 rfl) | exact (ow hw 23 rfl)
  · first | exact (ow hw 6 rfl) | exact (ow hw 5 rfl) | exact (ow hw 19 rfl) | exact (ow hw 20 rfl) | exact (ow hw 21 rfl) | exact (ow hw 22 rfl) | exact (ow hw 23 rfl)
  · first | exact (ow hw 6 rfl) | exact (ow hw 5 rfl) | exact (ow hw 19 rfl) | exact (ow hw 20 rfl) | exact (ow hw 21 rfl) | exact (ow hw 22 rfl) | exact (ow hw 23 rfl)
  · first | exact (ow hw 6 rfl) | exact (ow hw 5 rfl) | exact (ow hw 19 rfl) | exact (ow hw 20 rfl) | exact (ow hw 21 rfl) | exact (ow hw 22 rfl) | exact (ow hw 23 rfl)
  · first | exact (ow hw 6 rfl) | exact (ow hw 5 rfl) | exact (ow hw 19 rfl) | exact (ow hw 20 rfl) | exact (ow hw 21 rfl) | exact (ow hw 22 rfl) | exact (ow hw 23 rfl)
  · first | exact (ow hw 6 rfl) | exact (ow hw 5 rfl) | exact (ow hw 19 rfl) | exact (ow hw 20 rfl) | exact (ow hw 21 rfl) | exact (ow hw 22 rfl) | exact (ow hw 23 rfl)
  · first | exact (ow hw 6 rfl) | exact (ow hw 5 rfl) | exact (ow hw 19 rfl) | exact (ow hw 20 rfl) | exact (ow hw 21 rfl) | exact (ow hw 22 rfl) | exact (ow hw 23 rfl)
theorem d27_9 : decode k27 9 = .ok (.ldc 7, 2) := by decide +kernel
theorem d27_11 : decode k27 11 = .ok (.getfield 9, 3) := by decide +kernel
theorem d27_14 : decode k27 14 = .ok (.putfield 9, 3) := by decide +kernel
theorem d27_17 : decode k27 17 = .ok (.aload_n 0, 1) := by decide +kernel
theorem d27_18 : decode k27 18 = .ok (.ldc 7, 2) := by decide +kernel
theorem d27_20 : decode k27 20 = .ok (.getfield 15, 3) := by decide +kernel
theorem d27_23 : decode k27 23 = .ok (.putfield 15, 3) := by decide +kernel
theorem d27_26 : decode k27 26 = .ok (.return_, 1) := by decide +kernel
abbrev r_si6_0 : Room := { frames := 1, cells := 2, slots := 4, locals := 12 }
theorem ef_si6_0 (mt : MethodId) (a : Addr) (c : Addr) : entryFrame mt #[(.ref a), (.ref c), (.int (0 : Int32)), (.int (0 : Int32)), .null] 6 = mkF mt 0 #[.val (.ref a), .val (.ref c), .val (.int (0 : Int32)), .val (.int (0 : Int32)), .val .null, .unset] [] := by first | (simp [entryFrame, mkF, argsToLocals, Value.category]; done) | rfl
def Q_si6_0 (Z : State) (a : Addr) (c : Addr) (f : Nat → Int32) (h0 : Heap) (n0 : Nat) (v : Option Value) (h : Heap) (L : List Loc) : Prop := v = none ∧ Fr n0 L ∧ Keep h0 h [a] ∧ ∃ (t : Addr) (k : ClassId) (z : Int32) (vs : List Value) (cd : Int32), Fld Z h a "java/lang/String" "value" "[B" (.ref t) ∧ Fld Z h a "java/lang/String" "coder" "B" (.int cd) ∧ Arv Z h t k .byte z vs (.int (0 : Int32)) ∧ own_S cd z 0 f vs
theorem rm_si6_0 (l : Launch) (Z : State) (a0 : Array Value) (hw : ∀ d ∈ tables_1, d.before a0 Z = true) (ws : List Jvm.Cond) (a : Addr) (c : Addr) (f : Nat → Int32) (h0 : Heap) (n0 : Nat) (Z0 : n0 ≤ h0.size) (E : Exa Z h0 a "java/lang/String") (Fv : Fld Z h0 a "java/lang/String" "value" "[B" .null) (Fc : Fld Z h0 a "java/lang/String" "coder" "B" (.int (0 : Int32))) (ga : n0 ≤ a) (ST : own_St Z) (O : Old Z n0 h0) :
    MetFree l y_27 (head1 (Jvm.Cond.code y_27 k27 6 none :: ws) r_si6_0) (fun aa UU => aa = #[(.ref a), (.ref c), (.int (0 : Int32)), (.int (0 : Int32)), .null] ∧ Z.Warmed39 UU.vm ∧ UU.heap = h0 ∧ CHv Z own_EL UU.vm h0 ∧ ∀ x ∈ ([a] : List Addr), Safe Z own_EL UU.vm h0 x) (fun _ _ bl s _ => s.vm.MethodsKnown ∧ s.vm.FramesKnown bl) (fun _ UU oo UU' => ∃ vv LL, oo = .returned vv ∧ Q_si6_0 Z a c f h0 n0 vv UU'.heap LL ∧ (CHr Z own_EL) UU.vm UU.heap UU'.vm UU'.heap ∧ ReturnedEndW UU oo UU' LL r_si6_0.cells r_si6_0.slots) := by
  refine MetFree.of_bodySF (plainFor_of_name pn_0) hisR ?_
  intro p e s mt args below meth cd s₁ Bd hml0 hP hK
  obtain ⟨hA, hZ, hh, hC0, hSf⟩ := hP
  have hx := Bd.exec
  have hby := Bd.bytes
  have hml : cd.maxLocals = 6 := hml0
  have hown : s.vm.findClass "java/lang/String" = some mt.cls := findClass_of_methodNamed Bd.named
  have hnm := (name_of_methodNamed Bd.named Bd.method).1
  have hlk : meth.locks = false := BodyLoose.notSynchronized Bd
  have hrt := Bd.returns
  have X0 : Stand p l e r_si6_0 s mt args below meth cd s₁ [] 0 0 := Stand.of_body Bd
  have e0 : s₁.heap = h0 := by rw [← hh, Bd.state]; rfl
  have N0 := Fr.nil n0
  have hC := CHr.refl hC0
  show Win p e below (EndsX (CHr Z own_EL) s (Q_si6_0 Z a c f h0 n0) r_si6_0.cells r_si6_0.slots) s₁ (entryFrame mt args 6)
  rw [hA, ef_si6_0]
  obtain ⟨cs, u, S0, hcs, S1, hu, S2, S3, S4⟩ := id ST
  have sf_a := hSf a (List.mem_of_getElem? (i := 0) rfl)
  refine w_aloadN X0 hx hby d27_0 rfl rfl ?_
  show Win _ _ _ _ s₁ (mkF mt 1 #[.val (.ref a), .val (.ref c), .val (.int (0 : Int32)), .val (.int (0 : Int32)), .val .null, .unset] [(.ref a)])
  obtain ⟨T303, X303, e303, st303⟩ := initO X0 hx hZ hown (ow hw 15 rfl) (ow hw 16 rfl) (ow hw 17 rfl) e0 (g := (mkF mt 1 #[.val (.ref a), .val (.ref c), .val (.int (0 : Int32)), .val (.int (0 : Int32)), .val .null, .unset] [(.ref a)])) rfl (by rw [hml]; rfl) rfl (hb hby d27_1) (by decide) (W := 0) (by show 2 * 0 + _ ≤ _; exact Nat.le_of_eq rfl) (by decide)
  refine Win.st ?_ st303
  refine w_iloadN X303 hx hby d27_4 rfl ?_
  refine Win.st ?_ (fun tq kq => XS.ifNo X303.here hx rfl (hb hby d27_5) rfl ((if0 _ _).trans (teq (rfl : (0 : Int32) = (0 : Int32))).2) kq)
  refine w_aloadN X303 hx hby d27_8 rfl rfl ?_
  show Win _ _ _ _ T303 (mkF mt 9 #[.val (.ref a), .val (.ref c), .val (.int (0 : Int32)), .val (.int (0 : Int32)), .val .null, .unset] [(.ref a)])
  obtain ⟨li, T304, h304, kk304, lb, lk, X304, e304, E304, hS304, hk304, hZ304, hown304, LE304, LC304, LV304, LA304, -, -, hR304, hL304, hNe304, st304⟩ := ldcCH (s := s) (vm0 := s.vm) X303 hx hZ hown (ow hw 18 rfl) (own_strw hw) e303 (State.WarmedH.since (State.WarmedH.refl s) 0) (Nat.zero_le _) (own_EW hw) (List.mem_of_getElem? (i := 3) rfl) hC.1 (vs := []) (z := (0 : Int32)) ⟨by decide +kernel, rfl⟩ (by decide) rfl (g := (mkF mt 9 #[.val (.ref a), .val (.ref c), .val (.int (0 : Int32)), .val (.int (0 : Int32)), .val .null, .unset] [(.ref a)])) rfl (hb hby d27_9) (n := 0) (by decide +kernel) (by decide) (by decide) (by decide)
  replace X304 : Stand p l e _ (s.setVm T304.vm) mt args below meth cd T304 _ 2 4 := X304
  have ke304 := own_kext E304
  have f305_14 := E.keep ke304
  have f305_15 := Fv.keep ke304 nin0
  have f305_16 := Fc.keep ke304 nin0
  have K307 : Keep h0 h304 [a] := Keep.trans (Keep.refl h0 [a]) ke304 all0
  have sy304_a := CHr.safe hR304 E.lt sf_a
  have hC304 := CHr.trans hC hR304
  have nl304_a := hNe304 a sy304_a
  refine Win.st ?_ st304
  show Win _ _ _ _ T304 (mkF mt 11 #[.val (.ref a), .val (.ref c), .val (.int (0 : Int32)), .val (.int (0 : Int32)), .val .null, .unset] [(.ref li), (.ref a)])
  obtain ⟨T308, X308, e308, st308⟩ := getF X304 hx hZ304 hown304 (host := "") (Or.inl (ow hw 24 rfl)) Via.refl e304 LV304 (g := (mkF mt 11 #[.val (.ref a), .val (.ref c), .val (.int (0 : Int32)), .val (.int (0 : Int32)), .val .null, .unset] [(.ref li), (.ref a)])) rfl rfl (hb hby d27_11)
  refine Win.st ?_ st308
  show Win _ _ _ _ T308 (mkF mt 14 #[.val (.ref a), .val (.ref c), .val (.int (0 : Int32)), .val (.int (0 : Int32)), .val .null, .unset] [(.ref lb), (.ref a)])
  obtain ⟨T309, h309, X309, e309, W309, st309⟩ := putF X308 hx hZ304 hown304 (host := "") (Or.inl (ow hw 24 rfl)) Via.refl e308 f305_15 f305_14 (Or.inr ⟨(ow hw 20 rfl), rfl, hnm⟩) (ow hw 5 rfl) (ty := (.array .byte)) (by decide) rfl rfl (g := (mkF mt 14 #[.val (.ref a), .val (.ref c), .val (.int (0 : Int32)), .val (.int (0 : Int32)), .val .null, .unset] [(.ref lb), (.ref a)])) rfl rfl (hb hby d27_14)
  obtain ⟨L309, X309, N309⟩ := own_hide X309 N0 ga
  have kp309 := Keep.of_wr W309
  have fw309 := f305_15.same W309
  have f309_31 := f305_16.other W309 (Or.inr (slot_ne (Or.inr (ow hw 21 rfl)) (Or.inr (ow hw 20 rfl)) (by decide) (t := .byte) (t' := (.array .byte)) (by decide) (by decide)))
  have f310_33 := f305_14.keep kp309
  have f310_34 := Safe.keep kp309 (allS sy304_a all0) hC304.1 sy304_a
  have f310_35 := CHr.trans hC304 (CHr.keep kp309 (allS sy304_a all0) hC304.1)
  have f310_38 := LC304.keep kp309 (ninS (Ne.symm nl304_a.1) nin0)
  have f310_39 := LA304.keep kp309 (ninS (Ne.symm nl304_a.2) nin0)
  have hk312 := Nat.le_trans hk304 kp309.1
  have K313 : Keep h0 h309 [a] := Keep.trans K307 kp309 (allS (Or.inl (List.mem_of_getElem? (i := 0) rfl)) all0)
  refine Win.st ?_ st309
  refine w_aloadN X309 hx hby d27_17 rfl rfl ?_
  show Win _ _ _ _ T309 (mkF mt 18 #[.val (.ref a), .val (.ref c), .val (.int (0 : Int32)), .val (.int (0 : Int32)), .val .null, .unset] [(.ref a)])
  refine Win.st ?_ (ldcAgain (s := s) (vm0 := T304.vm) X309 hx hZ304 hown304 (ow hw 18 rfl) hL304 (g := (mkF mt 18 #[.val (.ref a), .val (.ref c), .val (.int (0 : Int32)), .val (.int (0 : Int32)), .val .null, .unset] [(.ref a)])) rfl (hb hby d27_18))
  show Win _ _ _ _ T309 (mkF mt 20 #[.val (.ref a), .val (.ref c), .val (.int (0 : Int32)), .val (.int (0 : Int32)), .val .null, .unset] [(.ref li), (.ref a)])
  obtain ⟨T314, X314, e314, st314⟩ := getF X309 hx hZ304 hown304 (host := "") (Or.inl (ow hw 25 rfl)) Via.refl e309 f310_38 (g := (mkF mt 20 #[.val (.ref a), .val (.ref c), .val (.int (0 : Int32)), .val (.int (0 : Int32)), .val .null, .unset] [(.ref li), (.ref a)])) rfl rfl (hb hby d27_20)
  refine Win.st ?_ st314
  show Win _ _ _ _ T314 (mkF mt 23 #[.val (.ref a), .val (.ref c), .val (.int (0 : Int32)), .val (.int (0 : Int32)), .val .null, .unset] [(.int (0 : Int32)), (.ref a)])
  obtain ⟨T315, h315, X315, e315, W315, st315⟩ := putFN X314 hx hZ304 hown304 (ow hw 25 rfl) Via.refl e314 f309_31 f310_33 (Or.inr ⟨(ow hw 21 rfl), rfl, hnm⟩) (ow hw 5 rfl) (ty := .byte) (v' := (.int (0 : Int32))) (by decide) rfl (by decide) (g := (mkF mt 23 #[.val (.ref a), .val (.ref c), .val (.int (0 : Int32)), .val (.int (0 : Int32)), .val .null, .unset] [(.int (0 : Int32)), (.ref a)])) rfl rfl (hb hby d27_23)
  obtain ⟨L315, X315, N315⟩ := own_hide X315 N309 ga
  have kp315 := Keep.of_wr W315
  have f315_54 := fw309.other W315 (Or.inr (slot_ne (Or.inr (ow hw 20 rfl)) (Or.inr (ow hw 21 rfl)) (by decide) (t := (.array .byte)) (t' := .byte) (by decide) (by decide)))
  have fw315 := f309_31.same W315
  have f316_59 := CHr.trans f310_35 (CHr.keep kp315 (allS f310_34 all0) f310_35.1)
  have f316_63 := f310_39.keep kp315 (ninS (Ne.symm nl304_a.2) nin0)
  have hk318 := Nat.le_trans hk312 kp315.1
  have K319 : Keep h0 h315 [a] := Keep.trans K313 kp315 (allS (Or.inl (List.mem_of_getElem? (i := 0) rfl)) all0)
  refine Win.st ?_ st315
  show Win _ _ _ _ T315 (mkF mt 26 #[.val (.ref a), .val (.ref c), .val (.int (0 : Int32)), .val (.int (0 : Int32)), .val .null, .unset] [])
  exact Win.retVX (s := s) (vm₁ := T304.vm) X315 hS304 hk318 hx hlk e315 hrt (hb hby d27_26) (by decide) (by decide) (by rw [hh]; exact f316_59.trans (CHv.at (s := s) (vm0 := T304.vm) X315 hZ304 (own_EW hw) f316_59.1)) ⟨rfl, N315, K319, lb, lk, _, _, _, f315_54, fw315, f316_63, own_S0_0 f⟩
abbrev r_si3_0 : Room := { frames := 2, cells := 2, slots := 4, locals := 29 }
theorem ef_si3_0 (mt : MethodId) (a : Addr) (c : Addr) : entryFrame mt #[(.ref a), (.ref c)] 2 = mkF mt 0 #[.val (.ref a), .val (.ref c)] [] := by first | (simp [entryFrame, mkF, argsToLocals, Value.category]; done) | rfl
def Q_si3_0 (Z : State) (a : Addr) (c : Addr) (kc : ClassId) (f : Nat → Int32) (h0 : Heap) (n0 : Nat) (v : Option Value) (h : Heap) (L : List Loc) : Prop := v = none ∧ Fr n0 L ∧ Keep h0 h [a] ∧ ∃ (t : Addr) (k : ClassId) (z : Int32) (vs : List Value) (cd : Int32), Fld Z h a "java/lang/String" "value" "[B" (.ref t) ∧ Fld Z h a "java/lang/String" "coder" "B" (.int cd) ∧ Arv Z h t k .byte z vs (.int (0 : Int32)) ∧ own_S cd z 0 f vs
theorem rm_si3_0 (l : Launch) (Z : State) (a0 : Array Value) (hw : ∀ d ∈ tables_1, d.before a0 Z = true) (ws : List Jvm.Cond) (a : Addr) (c : Addr) (kc : ClassId) (f : Nat → Int32) (h0 : Heap) (n0 : Nat) (Z0 : n0 ≤ h0.size) (E : Exa Z h0 a "java/lang/String") (Fv : Fld Z h0 a "java/lang/String" "value" "[B" .null) (Fc : Fld Z h0 a "java/lang/String" "coder" "B" (.int (0 : Int32))) (ga : n0 ≤ a) (ST : own_St Z) (O : Old Z n0 h0) (VA : Arv Z h0 c kc .char (0 : Int32) [] (.int (0 : Int32))) :
    MetFree l y_28 (head1 (Jvm.Cond.code y_28 k28 2 none :: ws) r_si3_0) (fun aa UU => aa = #[(.ref a), (.ref c)] ∧ Z.Warmed39 UU.vm ∧ UU.heap = h0 ∧ CHv Z own_EL UU.vm h0 ∧ ∀ x ∈ ([a] : List Addr), Safe Z own_EL UU.vm h0 x) (fun _ _ bl s _ => s.vm.MethodsKnown ∧ s.vm.FramesKnown bl) (fun _ UU oo UU' => ∃ vv LL, oo = .returned vv ∧ Q_si3_0 Z a c kc f h0 n0 vv UU'.heap LL ∧ (CHr Z own_EL) UU.vm UU.heap UU'.vm UU'.heap ∧ ReturnedEndW UU oo UU' LL r_si3_0.cells r_si3_0.slots) := by
  refine MetFree.of_bodySF (plainFor_of_name pn_0) hisR ?_
  intro p e s mt args below meth cd s₁ Bd hml0 hP hK
  obtain ⟨hA, hZ, hh, hC0, hSf⟩ := hP
  have hx := Bd.exec
  have hby := Bd.bytes
  have hml : cd.maxLocals = 2 := hml0
  have hown : s.vm.findClass "java/lang/String" = some mt.cls := findClass_of_methodNamed Bd.named
  have hlk : meth.locks = false := BodyLoose.notSynchronized Bd
  have hrt := Bd.returns
  have X0 : Stand p l e r_si3_0 s mt args below meth cd s₁ [] 0 0 := Stand.of_body Bd
  have e0 : s₁.heap = h0 := by rw [← hh, Bd.state]; rfl
  have N0 := Fr.nil n0
  have hC := CHr.refl hC0
  show Win p e below (EndsX (CHr Z own_EL) s (Q_si3_0 Z a c kc f h0 n0) r_si3_0.cells r_si3_0.slots) s₁ (entryFrame mt args 2)
  rw [hA, ef_si3_0]
  obtain ⟨cs, u, S0, hcs, S1, hu, S2, S3, S4⟩ := id ST
  have sf_a := hSf a (List.mem_of_getElem? (i := 0) rfl)
  refine w_aloadN X0 hx hby d28_0 rfl rfl ?_
  refine w_aloadN X0 hx hby d28_1 rfl rfl ?_
  refine w_iconst X0 hx hby d28_2 ?_
  refine w_aloadN X0 hx hby d28_3 rfl rfl ?_
  refine Win.st ?_ (own_alen (g := (mkF mt 4 #[.val (.ref a), .val (.ref c)] [(.ref c), (.int (0 : Int32)), (.ref c), (.ref a)])) X0 hx hZ e0 VA rfl rfl (hb hby d28_4))
  refine Win.st ?_ (fun tq kq => XS.aconstNull X0.here hx rfl (hb hby d28_5) kq)
  show Win _ _ _ _ s₁ (mkF mt 6 #[.val (.ref a), .val (.ref c)] [.null, (.int (0 : Int32)), (.int (0 : Int32)), (.ref c), (.ref a)])
  obtain ⟨v320, _, ⟨T320, L320, k320, n320⟩, -, X320, hS320, hgr320, ⟨Lc320, hQ320, l320, y320, z320, hR320⟩, st320⟩ := X0.specialBackS hx (y := y_27) rfl hown (mvT hZ (ow hw 11 rfl)) (mvT hZ (ow hw 12 rfl)) (mvT hZ (ow hw 14 rfl)) (by decide) (own_backX (RR := (CHr Z own_EL)) (s := s) (vm0 := s.vm) (W := 0) (rm_si6_0 l Z a0 hw [] a c f h0 n0 Z0 E Fv Fc ga ST O) (fun _ _ _ q r => q.trans r) hZ (ow hw 14 rfl) (ow hw 6 rfl) (by decide) (by decide) (own_EW hw) hC.1 (allS ⟨E.lt, sf_a⟩ all0) hK.1 hK.2) (g := (mkF mt 6 #[.val (.ref a), .val (.ref c)] [.null, (.int (0 : Int32)), (.int (0 : Int32)), (.ref c), (.ref a)])) rfl (by rw [hml]; rfl) (Steps.refl _) (a := a) (argsL := [(.ref c), (.int (0 : Int32)), (.int (0 : Int32)), .null]) (rest := []) (lenOf pd_18 rfl) rfl (wz rfl) (hb hby d28_6) (fun _ _ => ⟨rfl, e0, (by decide : 0 + 2 ≤ _), (by decide : 0 + 4 ≤ _)⟩)
  dsimp only [Pt.U, Pt.locs, Pt.cells, Pt.slots] at X320 l320 y320 z320 st320 hQ320 hS320 hR320
  obtain ⟨X320, hS320, hZ320, hown320⟩ := rebS (s := s) (vm0 := s.vm) (k0 := 0) (n1 := 0) (State.WarmedH.since (State.WarmedH.refl s) 0) (Nat.le_refl 0) X320 hS320 (Nat.zero_le _) hZ hown
  subst y320 z320
  replace X320 : Stand p l e _ (s.setVm T320.vm) mt args below meth cd T320 L320 2 4 := X320
  obtain ⟨h320, e320⟩ : ∃ z, T320.heap = z := ⟨_, rfl⟩
  rw [e320] at hQ320 hR320
  have hk320 : T320.heap.size ≤ h320.size := by rw [e320]; exact Nat.le_refl _
  obtain ⟨rfl, Nq320, K320, hs6⟩ := hQ320
  have N320 : Fr n0 L320 := by rw [l320]; exact Fr.app N0 Nq320
  have K323 : Keep h0 h320 [a] := Keep.trans (Keep.refl h0 [a]) K320 (allS (Or.inl (List.mem_of_getElem? (i := 0) rfl)) all0)
  have hC320 := CHr.trans hC hR320
  refine Win.tr ?_ st320
  show Win _ _ _ _ T320 (mkF mt 9 #[.val (.ref a), .val (.ref c)] [])
  exact Win.retVX (s := s) (vm₁ := T320.vm) X320 hS320 hk320 hx hlk e320 hrt (hb hby d28_9) (by decide) (by decide) (by rw [hh]; exact hC320.trans (CHv.at (s := s) (vm0 := T320.vm) X320 hZ320 (own_EW hw) hC320.1)) ⟨rfl, N320, K323, hs6⟩
abbrev k29 : ByteArray := method_2_code
theorem d29_0 : decode k29 0 = .ok (.iload_n 0, 1) := by decide +kernel
theorem d29_1 : decode k29 1 = .ok (.ifCond .ne 14, 3) := by decide +kernel
theorem d29_4 : decode k29 4 = .ok (.new 7, 3) := by decide +kernel
theorem d29_7 : decode k29 7 = .ok (.dup, 1) := by decide +kernel
theorem d29_8 : decode k29 8 = .ok (.iconst 0, 1) := by decide +kernel
theorem d29_9 : decode k29 9 = .ok (.newarray .char, 2) := by decide +kernel
theorem d29_11 : decode k29 11 = .ok (.invokespecial 9, 3) := by decide +kernel
theorem pd_19 : parseMethodDescriptor "([C)V" = some ⟨[(.array .char)], none⟩ := by decide +kernel
theorem d29_14 : decode k29 14 = .ok (.areturn, 1) := by decide +kernel
theorem d29_15 : decode k29 15 = .ok (.iload_n 0, 1) := by decide +kernel
theorem d29_16 : decode k29 16 = .ok (.iconst 1, 1) := by decide +kernel
theorem d29_17 : decode k29 17 = .ok (.if_icmp .ne 8, 3) := by decide +kernel
theorem d29_20 : decode k29 20 = .ok (.iload_n 1, 1) := by decide +kernel
theorem d29_21 : decode k29 21 = .ok (.invokestatic 12, 3) := by decide +kernel
theorem pd_20 : parseMethodDescriptor "(C)Ljava/lang/String;" = some ⟨[.char], some (.object "java/lang/String")⟩ := by decide +kernel
theorem d29_24 : decode k29 24 = .ok (.areturn, 1) := by decide +kernel
theorem d29_25 : decode k29 25 = .ok (.iload_n 0, 1) := by decide +kernel
theorem d29_26 : decode k29 26 = .ok (.iconst 2, 1) := by decide +kernel
theorem d29_27 : decode k29 27 = .ok (.if_icmp .ne 22, 3) := by decide +kernel
theorem d29_30 : decode k29 30 = .ok (.new 7, 3) := by decide +kernel
theorem d29_33 : decode k29 33 = .ok (.dup, 1) := by decide +kernel
theorem d29_34 : decode k29 34 = .ok (.iconst 2, 1) := by decide +kernel
theorem d29_35 : decode k29 35 = .ok (.newarray .char, 2) := by decide +kernel
theorem d29_37 : decode k29 37 = .ok (.dup, 1) := by decide +kernel
theorem d29_38 : decode k29 38 = .ok (.iconst 0, 1) := by decide +kernel
theorem d29_39 : decode k29 39 = .ok (.iload_n 1, 1) := by decide +kernel
theorem d29_40 : decode k29 40 = .ok (.castore, 1) := by decide +kernel
theorem d29_41 : decode k29 41 = .ok (.dup, 1) := by decide +kernel
theorem d29_42 : decode k29 42 = .ok (.iconst 1, 1) := by decide +kernel
theorem d29_43 : decode k29 43 = .ok (.iload_n 2, 1) := by decide +kernel
theorem d29_44 : decode k29 44 = .ok (.castore, 1) := by decide +kernel
theorem d29_45 : decode k29 45 = .ok (.invokespecial 9, 3) := by decide +kernel
theorem d29_48 : decode k29 48 = .ok (.areturn, 1) := by decide +kernel
theorem d29_49 : decode k29 49 = .ok (.new 7, 3) := by decide +kernel
theorem d29_52 : decode k29 52 = .ok (.dup, 1) := by decide +kernel
theorem d29_53 : decode k29 53 = .ok (.iconst 3, 1) := by decide +kernel
theorem d29_54 : decode k29 54 = .ok (.newarray .char, 2) := by decide +kernel
theorem d29_56 : decode k29 56 = .ok (.dup, 1) := by decide +kernel
theorem d29_57 : decode k29 57 = .ok (.iconst 0, 1) := by decide +kernel
theorem d29_58 : decode k29 58 = .ok (.iload_n 1, 1) := by decide +kernel
theorem d29_59 : decode k29 59 = .ok (.castore, 1) := by decide +kernel
theorem d29_60 : decode k29 60 = .ok (.dup, 1) := by decide +kernel
theorem d29_61 : decode k29 61 = .ok (.iconst 1, 1) := by decide +kernel
theorem d29_62 : decode k29 62 = .ok (.iload_n 2, 1) := by decide +kernel
theorem d29_63 : decode k29 63 = .ok (.castore, 1) := by decide +kernel
theorem d29_64 : decode k29 64 = .ok (.dup, 1) := by decide +kernel
theorem d29_65 : decode k29 65 = .ok (.iconst 2, 1) := by decide +kernel
theorem d29_66 : decode k29 66 = .ok (.iload_n 3, 1) := by decide +kernel
theorem d29_67 : decode k29 67 = .ok (.castore, 1) := by decide +kernel
theorem d29_68 : decode k29 68 = .ok (.invokespecial 9, 3) := by decide +kernel
theorem d29_71 : decode k29 71 = .ok (.areturn, 1) := by decide +kernel
abbrev y_29 : MethodName := ⟨"com/example/kwerx/kwerx/cli/CommandLineUsageErrorPinLaw", "mk", "(ICCC)Ljava/lang/String;"⟩
abbrev r_mk : Room := { frames := 6, cells := 4, slots := 16, locals := 88 }
theorem pn_5 : plainName "com/example/kwerx/kwerx/cli/CommandLineUsageErrorPinLaw" = true := by first | (simp [plainName, overriddenIn]; done) | decide +kernel
theorem ef_mk (mt : MethodId) (nn : Int32) (x0 : Int32) (x1 : Int32) (x2 : Int32) : entryFrame mt #[(.int nn), (.int x0), (.int x1), (.int x2)] 4 = mkF mt 0 #[.val (.int nn), .val (.int x0), .val (.int x1), .val (.int x2)] [] := by first | (simp [entryFrame, mkF, argsToLocals, Value.category]; done) | rfl
def Q_mk (Z : State) (nn : Int32) (x0 : Int32) (x1 : Int32) (x2 : Int32) (h0 : Heap) (n0 : Nat) (v : Option Value) (h : Heap) (L : List Loc) : Prop := ∃ r : Addr, v = some (.ref r) ∧ Fr n0 L ∧ Keep h0 h [] ∧ Exa Z h r "java/lang/String" ∧ ∃ n : Nat, nn = own_I n ∧ n ≤ 3 ∧ ∃ (t : Addr) (k : ClassId) (z : Int32) (vs : List Value) (cd : Int32), Fld Z h r "java/lang/String" "value" "[B" (.ref t) ∧ Fld Z h r "java/lang/String" "coder" "B" (.int cd) ∧ Arv Z h t k .byte z vs (.int (0 : Int32)) ∧ own_S cd z n (own_f x0 x1 x2) vs
theorem rm_mk (l : Launch) (Z : State) (a0 : Array Value) (hw : ∀ d ∈ tables_1, d.before a0 Z = true) (ws : List Jvm.Cond) (nn : Int32) (x0 : Int32) (x1 : Int32) (x2 : Int32) (h0 : Heap) (n0 : Nat) (Z0 : n0 ≤ h0.size) (hn : nn = 0 ∨ nn = 1 ∨ nn = 2 ∨ nn = 3) (hX0 : own_C x0) (hX1 : own_C x1) (hX2 : own_C x2) (ST : own_St Z) (O : Old Z n0 h0) :
    MetFree l y_29 (head1 (Jvm.Cond.code y_29 k29 4 (some (.object "java/lang/String")) :: ws) r_mk) (fun aa UU => aa = #[(.int nn), (.int x0), (.int x1), (.int x2)] ∧ Z.Warmed39 UU.vm ∧ UU.heap = h0 ∧ CHv Z own_EL UU.vm h0 ∧ ∀ x ∈ ([] : List Addr), Safe Z own_EL UU.vm h0 x) (fun _ _ bl s _ => s.vm.MethodsKnown ∧ s.vm.FramesKnown bl) (fun _ UU oo UU' => ∃ vv LL, oo = .returned vv ∧ Q_mk Z nn x0 x1 x2 h0 n0 vv UU'.heap LL ∧ (CHr Z own_EL) UU.vm UU.heap UU'.vm UU'.heap ∧ ReturnedEndW UU oo UU' LL r_mk.cells r_mk.slots) := by
  refine MetFree.of_bodySF (plainFor_of_name pn_5) hisR ?_
  intro p e s mt args below meth cd s₁ Bd hml0 hP hK
  obtain ⟨hA, hZ, hh, hC0, hSf⟩ := hP
  have hx := Bd.exec
  have hby := Bd.bytes
  have hml : cd.maxLocals = 4 := hml0
  have hown : s.vm.findClass "com/example/kwerx/kwerx/cli/CommandLineUsageErrorPinLaw" = some mt.cls := findClass_of_methodNamed Bd.named
  have hlk : meth.locks = false := BodyLoose.notSynchronized Bd
  have hrt := Bd.returns
  have X0 : Stand p l e r_mk s mt args below meth cd s₁ [] 0 0 := Stand.of_body Bd
  have e0 : s₁.heap = h0 := by rw [← hh, Bd.state]; rfl
  have N0 := Fr.nil n0
  have hC := CHr.refl hC0
  show Win p e below (EndsX (CHr Z own_EL) s (Q_mk Z nn x0 x1 x2 h0 n0) r_mk.cells r_mk.slots) s₁ (entryFrame mt args 4)
  rw [hA, ef_mk]
  obtain ⟨cs, u, S0, hcs, S1, hu, S2, S3, S4⟩ := id ST
  rcases hn with rfl | rfl | rfl | rfl
  · show Win _ _ _ _ s₁ (mkF mt 0 #[.val (.int (0 : Int32)), .val (.int x0), .val (.int x1), .val (.int x2)] [])
    refine w_iloadN X0 hx hby d29_0 rfl ?_
    refine Win.st ?_ (fun tq kq => XS.ifNo X0.here hx rfl (hb hby d29_1) rfl ((if0 _ _).trans (teq (rfl : (0 : Int32) = (0 : Int32))).2) kq)
    show Win _ _ _ _ s₁ (mkF mt 4 #[.val (.int (0 : Int32)), .val (.int x0), .val (.int x1), .val (.int x2)] [])
    obtain ⟨T324, h324, X324, e324, E324, A324, D324, -, st324⟩ := newO X0 hx hZ hown (ow hw 4 rfl) (ow hw 5 rfl) (ow hw 6 rfl) e0 (g := (mkF mt 4 #[.val (.int (0 : Int32)), .val (.int x0), .val (.int x1), .val (.int x2)] [])) rfl (hb hby d29_4) (by decide) (by decide)
    obtain ⟨b324, gq324⟩ : ∃ z, z = h0.size := ⟨_, rfl⟩
    rw [← gq324] at A324 D324 st324
    have g325 : n0 ≤ b324 := own_newle Z0 gq324
    have z326 : h0.size ≤ b324 := own_newle (Keep.refl h0 []).1 gq324
    have ke324 := own_kext E324
    have sf324 := Safe.ext E324 hC.1 (Safe.new (x := b324) (Nat.le_of_eq gq324.symm))
    replace X324 : Stand p l e _ s mt args below meth cd T324 _ 1 4 := X324
    have f327_14 := O.keep ke324 all0
    have f327_15 := CHr.trans hC (CHr.keep ke324 all0 hC.1)
    have Z328 : n0 ≤ h324.size := Nat.le_trans Z0 ke324.1
    have K329 : Keep h0 h324 [] := Keep.trans (Keep.refl h0 []) ke324 all0
    have fn324_value : Fld Z h324 b324 "java/lang/String" "value" "[B" .null := D324 (Or.inr (ow hw 20 rfl)) (ty := (.array .byte)) (by decide)
    have fn324_coder : Fld Z h324 b324 "java/lang/String" "coder" "B" (.int (0 : Int32)) := D324 (Or.inr (ow hw 21 rfl)) (ty := .byte) (by decide)
    refine Win.st ?_ st324
    show Win _ _ _ _ T324 (mkF mt 7 #[.val (.int (0 : Int32)), .val (.int x0), .val (.int x1), .val (.int x2)] [(.ref b324)])
    refine Win.st ?_ (fun tq kq => XS.dup X324.here hx rfl (hb hby d29_7) rfl rfl kq)
    refine w_iconst X324 hx hby d29_8 ?_
    obtain ⟨T330, h330, k330, X330, e330, E330, A330, st330⟩ := newP X324 hx hZ (ow hw 7 rfl) e324 (g := (mkF mt 9 #[.val (.int (0 : Int32)), .val (.int x0), .val (.int x1), .val (.int x2)] [(.int (0 : Int32)), (.ref b324), (.ref b324)])) rfl (hb hby d29_9) rfl (by decide) (cap := 0) (by decide) (by decide) (by decide) (by decide)
    obtain ⟨b330, gq330⟩ : ∃ z, z = h324.size := ⟨_, rfl⟩
    rw [← gq330] at A330 st330
    have ke330 := own_kext E330
    replace X330 : Stand p l e _ s mt args below meth cd T330 _ 2 4 := X330
    have f334_32 := f327_14.keep ke330 all0
    have f334_33 := CHr.trans f327_15 (CHr.keep ke330 all0 f327_15.1)
    have f334_34 := A324.keep ke330
    have f334_35 := Safe.keep ke330 all0 f327_15.1 sf324
    have f334_36 := fn324_value.keep ke330 nin0
    have f334_37 := fn324_coder.keep ke330 nin0
    have Z335 : n0 ≤ h330.size := Nat.le_trans Z328 ke330.1
    have K336 : Keep h0 h330 [] := Keep.trans K329 ke330 all0
    have V330 : Arv Z h330 b330 k330 .char (0 : Int32) [] (.int (0 : Int32)) := (Arv.new A330 (by decide)).pad (pad_rep [] (.int (0 : Int32)) 0)
    refine Win.st ?_ st330
    show Win _ _ _ _ T330 (mkF mt 11 #[.val (.int (0 : Int32)), .val (.int x0), .val (.int x1), .val (.int x2)] [(.ref b330), (.ref b324), (.ref b324)])
    obtain ⟨v337, _, ⟨T337, L337, k337, n337⟩, -, X337, hS337, hgr337, ⟨Lc337, hQ337, l337, y337, z337, hR337⟩, st337⟩ := X330.specialBackS hx (y := y_28) rfl hown (mvT hZ (ow hw 8 rfl)) (mvT hZ (ow hw 9 rfl)) (mvT hZ (ow hw 10 rfl)) (by decide) (own_backX (RR := (CHr Z own_EL)) (s := s) (vm0 := s.vm) (W := 1) (rm_si3_0 l Z a0 hw [] b324 b330 k330 (own_f x0 x1 x2) h330 n0 Z335 f334_34 f334_36 f334_37 g325 ST f334_32 V330) (fun _ _ _ q r => q.trans r) hZ (ow hw 10 rfl) (ow hw 6 rfl) (by decide) (by decide) (own_EW hw) f334_33.1 (allS ⟨f334_34.lt, f334_35⟩ all0) hK.1 hK.2) (g := (mkF mt 11 #[.val (.int (0 : Int32)), .val (.int x0), .val (.int x1), .val (.int x2)] [(.ref b330), (.ref b324), (.ref b324)])) rfl (by rw [hml]; rfl) (Steps.refl _) (a := b324) (argsL := [(.ref b330)]) (rest := [(.ref b324)]) (lenOf pd_19 rfl) rfl (wz rfl) (hb hby d29_11) (fun _ _ => ⟨rfl, e330, (by decide : 2 + 2 ≤ _), (by decide : 4 + 4 ≤ _)⟩)
    dsimp only [Pt.U, Pt.locs, Pt.cells, Pt.slots] at X337 l337 y337 z337 st337 hQ337 hS337 hR337
    obtain ⟨X337, hS337, hZ337, hown337⟩ := rebS (s := s) (vm0 := s.vm) (k0 := 0) (n1 := 0) (State.WarmedH.since (State.WarmedH.refl s) 0) (Nat.le_refl 0) X337 hS337 (Nat.zero_le _) hZ hown
    subst y337 z337
    replace X337 : Stand p l e _ (s.setVm T337.vm) mt args below meth cd T337 L337 4 8 := X337
    obtain ⟨h337, e337⟩ : ∃ z, T337.heap = z := ⟨_, rfl⟩
    rw [e337] at hQ337 hR337
    have hk337 : T337.heap.size ≤ h337.size := by rw [e337]; exact Nat.le_refl _
    obtain ⟨rfl, Nq337, K337, hs6⟩ := hQ337
    have N337 : Fr n0 L337 := by rw [l337]; exact Fr.app N0 Nq337
    have f338_54 := f334_34.keep K337
    have K340 : Keep h0 h337 [] := Keep.trans K336 K337 (allS (Or.inr z326) all0)
    have hC337 := CHr.trans f334_33 hR337
    refine Win.tr ?_ st337
    show Win _ _ _ _ T337 (mkF mt 14 #[.val (.int (0 : Int32)), .val (.int x0), .val (.int x1), .val (.int x2)] [(.ref b324)])
    exact Win.retRX (s := s) (vm₁ := T337.vm) X337 hS337 hk337 hx hlk e337 hrt rfl rfl rfl (hb hby d29_14) (by decide) (by decide) (by rw [hh]; exact hC337.trans (CHv.at (s := s) (vm0 := T337.vm) X337 hZ337 (own_EW hw) hC337.1)) ⟨_, rfl, N337, K340, f338_54, 0, rfl, by decide, hs6⟩
  · show Win _ _ _ _ s₁ (mkF mt 0 #[.val (.int (1 : Int32)), .val (.int x0), .val (.int x1), .val (.int x2)] [])
    refine w_iloadN X0 hx hby d29_0 rfl ?_
    refine Win.st ?_ (fun tq kq => XS.ifYes X0.here hx rfl (pc0 := 1) (pc' := 15) rfl (hb hby d29_1) rfl ((if0 _ _).trans (feq (by decide : ¬ ((1 : Int32) = (0 : Int32)))).2) (by decide) (by decide) kq)
    refine w_iloadN X0 hx hby d29_15 rfl ?_
    refine w_iconst X0 hx hby d29_16 ?_
    refine Win.st ?_ (fun tq kq => XS.icmpNo X0.here hx rfl (hb hby d29_17) rfl (teq (rfl : (1 : Int32) = (1 : Int32))).2 kq)
    refine w_iloadN X0 hx hby d29_20 rfl ?_
    show Win _ _ _ _ s₁ (mkF mt 21 #[.val (.int (1 : Int32)), .val (.int x0), .val (.int x1), .val (.int x2)] [(.int x0)])
    obtain ⟨v341, _, ⟨T341, L341, k341, n341⟩, -, X341, ⟨Lc341, hQ341, l341, rfl, rfl⟩, st341⟩ := Jvm.LawKit.callS X0 hx (y := y_22) hown (mvT hZ (ow hw 240 rfl)) (mvT hZ (ow hw 241 rfl)) (mvT hZ (ow hw 6 rfl)) (mvT hZ (ow hw 242 rfl)) (by decide) (backOf (W := 0) (rm_valueof l Z a0 hw [] x0 x1 x2 h0 n0 Z0 ST O hX0) hZ (ow hw 242 rfl) (ow hw 6 rfl) (by decide) (by decide)) (g := (mkF mt 21 #[.val (.int (1 : Int32)), .val (.int x0), .val (.int x1), .val (.int x2)] [(.int x0)])) rfl (by rw [hml]; rfl) (argsL := [(.int x0)]) (rest := []) (lenOf pd_20 rfl) rfl (wz rfl) (hb hby d29_21) (fun _ _ => ⟨rfl, e0, (by decide : 0 + 2 ≤ _), (by decide : 0 + 6 ≤ _)⟩)
    replace X341 : Stand p l e _ s mt args below meth cd T341 L341 2 6 := X341
    obtain ⟨h341, e341⟩ : ∃ z, T341.heap = z := ⟨_, rfl⟩
    rw [e341] at hQ341
    obtain ⟨rv, rfl, Nq341, K341, hE, hs6⟩ := hQ341
    have N341 := own_fr (L := L341) l341 N0 Nq341
    have f342_78 := CHr.trans hC (CHr.keep K341 all0 hC.1)
    have K344 : Keep h0 h341 [] := Keep.trans (Keep.refl h0 []) K341 all0
    refine Win.st ?_ st341
    show Win _ _ _ _ T341 (mkF mt 24 #[.val (.int (1 : Int32)), .val (.int x0), .val (.int x1), .val (.int x2)] [(.ref rv)])
    exact Win.retRX (s := s) (vm₁ := s.vm) X341 (State.WarmedH.since (State.WarmedH.refl s) 0) (Nat.zero_le _) hx hlk e341 hrt rfl rfl rfl (hb hby d29_24) (by decide) (by decide) (by rw [hh]; exact f342_78.trans (CHv.at (s := s) (vm0 := s.vm) X341 hZ (own_EW hw) f342_78.1)) ⟨_, rfl, N341, K344, hE, 1, rfl, by decide, hs6⟩
  · show Win _ _ _ _ s₁ (mkF mt 0 #[.val (.int (2 : Int32)), .val (.int x0), .val (.int x1), .val (.int x2)] [])
    refine w_iloadN X0 hx hby d29_0 rfl ?_
    refine Win.st ?_ (fun tq kq => XS.ifYes X0.here hx rfl (pc0 := 1) (pc' := 15) rfl (hb hby d29_1) rfl ((if0 _ _).trans (feq (by decide : ¬ ((2 : Int32) = (0 : Int32)))).2) (by decide) (by decide) kq)
    refine w_iloadN X0 hx hby d29_15 rfl ?_
    refine w_iconst X0 hx hby d29_16 ?_
    refine Win.st ?_ (fun tq kq => XS.icmpYes X0.here hx rfl (pc0 := 17) (pc' := 25) rfl (hb hby d29_17) rfl (feq (by decide : ¬ ((2 : Int32) = (1 : Int32)))).2 (by decide) (by decide) kq)
    refine w_iloadN X0 hx hby d29_25 rfl ?_
    refine w_iconst X0 hx hby d29_26 ?_
    refine Win.st ?_ (fun tq kq => XS.icmpNo X0.here hx rfl (hb hby d29_27) rfl (teq (rfl : (2 : Int32) = (2 : Int32))).2 kq)
    show Win _ _ _ _ s₁ (mkF mt 30 #[.val (.int (2 : Int32)), .val (.int x0), .val (.int x1), .val (.int x2)] [])
    obtain ⟨T345, h345, X345, e345, E345, A345, D345, -, st345⟩ := newO X0 hx hZ hown (ow hw 4 rfl) (ow hw 5 rfl) (ow hw 6 rfl) e0 (g := (mkF mt 30 #[.val (.int (2 : Int32)), .val (.int x0), .val (.int x1), .val (.int x2)] [])) rfl (hb hby d29_30) (by decide) (by decide)
    obtain ⟨b345, gq345⟩ : ∃ z, z = h0.size := ⟨_, rfl⟩
    rw [← gq345] at A345 D345 st345
    have g346 : n0 ≤ b345 := own_newle Z0 gq345
    have z347 : h0.size ≤ b345 := own_newle (Keep.refl h0 []).1 gq345
    have ke345 := own_kext E345
    have sf345 := Safe.ext E345 hC.1 (Safe.new (x := b345) (Nat.le_of_eq gq345.symm))
    replace X345 : Stand p l e _ s mt args below meth cd T345 _ 1 4 := X345
    have f348_102 := O.keep ke345 all0
    have f348_103 := CHr.trans hC (CHr.keep ke345 all0 hC.1)
    have Z349 : n0 ≤ h345.size := Nat.le_trans Z0 ke345.1
    have K350 : Keep h0 h345 [] := Keep.trans (Keep.refl h0 []) ke345 all0
    have fn345_value : Fld Z h345 b345 "java/lang/String" "value" "[B" .null := D345 (Or.inr (ow hw 20 rfl)) (ty := (.array .byte)) (by decide)
    have fn345_coder : Fld Z h345 b345 "java/lang/String" "coder" "B" (.int (0 : Int32)) := D345 (Or.inr (ow hw 21 rfl)) (ty := .byte) (by decide)
    refine Win.st ?_ st345
    show Win _ _ _ _ T345 (mkF mt 33 #[.val (.int (2 : Int32)), .val (.int x0), .val (.int x1), .val (.int x2)] [(.ref b345)])
    refine Win.st ?_ (fun tq kq => XS.dup X345.here hx rfl (hb hby d29_33) rfl rfl kq)
    refine w_iconst X345 hx hby d29_34 ?_
    obtain ⟨T351, h351, k351, X351, e351, E351, A351, st351⟩ := newP X345 hx hZ (ow hw 7 rfl) e345 (g := (mkF mt 35 #[.val (.int (2 : Int32)), .val (.int x0), .val (.int x1), .val (.int x2)] [(.int (2 : Int32)), (.ref b345), (.ref b345)])) rfl (hb hby d29_35) rfl (by decide) (cap := 2) (by decide) (by decide) (by decide) (by decide)
    obtain ⟨b351, gq351⟩ : ∃ z, z = h345.size := ⟨_, rfl⟩
    rw [← gq351] at A351 st351
    have ne352 : b345 ≠ b351 := own_new gq351 A345.lt
    have g353 : n0 ≤ b351 := own_newle Z349 gq351
    have z354 : h0.size ≤ b351 := own_newle K350.1 gq351
    have ke351 := own_kext E351
    replace X351 : Stand p l e _ s mt args below meth cd T351 _ 2 6 := X351
    have f355_120 := f348_102.keep ke351 all0
    have f355_121 := CHr.trans f348_103 (CHr.keep ke351 all0 f348_103.1)
    have f355_122 := A345.keep ke351
    have f355_123 := Safe.keep ke351 all0 f348_103.1 sf345
    have f355_124 := fn345_value.keep ke351 nin0
    have f355_125 := fn345_coder.keep ke351 nin0
    have Z356 : n0 ≤ h351.size := Nat.le_trans Z349 ke351.1
    have K357 : Keep h0 h351 [] := Keep.trans K350 ke351 all0
    have V351 : Arv Z h351 b351 k351 .char (2 : Int32) [(.int (0 : Int32)), (.int (0 : Int32))] (.int (0 : Int32)) := (Arv.new A351 (by decide)).pad (pad_rep [] (.int (0 : Int32)) 2)
    refine Win.st ?_ st351
    show Win _ _ _ _ T351 (mkF mt 37 #[.val (.int (2 : Int32)), .val (.int x0), .val (.int x1), .val (.int x2)] [(.ref b351), (.ref b345), (.ref b345)])
    refine Win.st ?_ (fun tq kq => XS.dup X351.here hx rfl (hb hby d29_37) rfl rfl kq)
    refine w_iconst X351 hx hby d29_38 ?_
    refine w_iloadN X351 hx hby d29_39 rfl ?_
    show Win _ _ _ _ T351 (mkF mt 40 #[.val (.int (2 : Int32)), .val (.int x0), .val (.int x1), .val (.int x2)] [(.int x0), (.int (0 : Int32)), (.ref b351), (.ref b351), (.ref b345), (.ref b345)])
    obtain ⟨T358, h358, L358, X358, N358, e358, kp358, V358, st358⟩ := own_cast (g := (mkF mt 40 #[.val (.int (2 : Int32)), .val (.int x0), .val (.int x1), .val (.int x2)] [(.int x0), (.int (0 : Int32)), (.ref b351), (.ref b351), (.ref b345), (.ref b345)])) X351 hx hZ e351 N0 g353 V351 (j := (0 : Int32)) (by decide) (by decide) (i := 0) rfl (by simp) rfl rfl (hb hby d29_40)
    rw [own_i2c hX0] at V358
    replace V358 : Arv Z h358 b351 k351 .char (2 : Int32) ([(.int x0), (.int (0 : Int32))]) (.int (0 : Int32)) := V358
    have f359_138 := f355_120.keep kp358 (allS g353 all0)
    have f359_139 := CHr.trans f355_121 (CHr.keep kp358 (allS (own_safeA hZ.alike V351 (by decide)) all0) f355_121.1)
    have f359_140 := f355_122.keep kp358
    have f359_141 := Safe.keep kp358 (allS (own_safeA hZ.alike V351 (by decide)) all0) f355_121.1 f355_123
    have f359_142 := f355_124.keep kp358 (ninS ne352 nin0)
    have f359_143 := f355_125.keep kp358 (ninS ne352 nin0)
    have Z360 : n0 ≤ h358.size := Nat.le_trans Z356 kp358.1
    have K361 : Keep h0 h358 [] := Keep.trans K357 kp358 (allS (Or.inr z354) all0)
    refine Win.st ?_ st358
    show Win _ _ _ _ T358 (mkF mt 41 #[.val (.int (2 : Int32)), .val (.int x0), .val (.int x1), .val (.int x2)] [(.ref b351), (.ref b345), (.ref b345)])
    refine Win.st ?_ (fun tq kq => XS.dup X358.here hx rfl (hb hby d29_41) rfl rfl kq)
    refine w_iconst X358 hx hby d29_42 ?_
    refine w_iloadN X358 hx hby d29_43 rfl ?_
    show Win _ _ _ _ T358 (mkF mt 44 #[.val (.int (2 : Int32)), .val (.int x0), .val (.int x1), .val (.int x2)] [(.int x1), (.int (1 : Int32)), (.ref b351), (.ref b351), (.ref b345), (.ref b345)])
    obtain ⟨T362, h362, L362, X362, N362, e362, kp362, V362, st362⟩ := own_cast (g := (mkF mt 44 #[.val (.int (2 : Int32)), .val (.int x0), .val (.int x1), .val (.int x2)] [(.int x1), (.int (1 : Int32)), (.ref b351), (.ref b351), (.ref b345), (.ref b345)])) X358 hx hZ e358 N358 g353 V358 (j := (1 : Int32)) (by decide) (by decide) (i := 1) rfl (by simp) rfl rfl (hb hby d29_44)
    rw [own_i2c hX1] at V362
    replace V362 : Arv Z h362 b351 k351 .char (2 : Int32) ([(.int x0), (.int x1)]) (.int (0 : Int32)) := V362
    have f363_155 := f359_138.keep kp362 (allS g353 all0)
    have f363_156 := CHr.trans f359_139 (CHr.keep kp362 (allS (own_safeA hZ.alike V358 (by decide)) all0) f359_139.1)
    have f363_157 := f359_140.keep kp362
    have f363_158 := Safe.keep kp362 (allS (own_safeA hZ.alike V358 (by decide)) all0) f359_139.1 f359_141
    have f363_159 := f359_142.keep kp362 (ninS ne352 nin0)
    have f363_160 := f359_143.keep kp362 (ninS ne352 nin0)
    have Z364 : n0 ≤ h362.size := Nat.le_trans Z360 kp362.1
    have K365 : Keep h0 h362 [] := Keep.trans K361 kp362 (allS (Or.inr z354) all0)
    refine Win.st ?_ st362
    show Win _ _ _ _ T362 (mkF mt 45 #[.val (.int (2 : Int32)), .val (.int x0), .val (.int x1), .val (.int x2)] [(.ref b351), (.ref b345), (.ref b345)])
    obtain ⟨v366, _, ⟨T366, L366, k366, n366⟩, -, X366, ⟨Lc366, hQ366, l366, rfl, rfl⟩, st366⟩ := X362.specialBack hx (y := y_28) rfl hown (mvT hZ (ow hw 8 rfl)) (mvT hZ (ow hw 9 rfl)) (mvT hZ (ow hw 10 rfl)) (by decide) (backOf (W := 1) (rm_si3_2 l Z a0 hw [] b345 b351 k351 x0 x1 x2 h362 n0 Z364 f363_157 f363_159 f363_160 g346 ST f363_155 V362 (Ne.symm ne352) hX0 hX1) hZ (ow hw 10 rfl) (ow hw 6 rfl) (by decide) (by decide)) (g := (mkF mt 45 #[.val (.int (2 : Int32)), .val (.int x0), .val (.int x1), .val (.int x2)] [(.ref b351), (.ref b345), (.ref b345)])) rfl (by rw [hml]; rfl) (Steps.refl _) (a := b345) (argsL := [(.ref b351)]) (rest := [(.ref b345)]) (lenOf pd_19 rfl) rfl (wz rfl) (hb hby d29_45) (fun _ _ => ⟨rfl, e362, (by decide : 2 + 2 ≤ _), (by decide : 6 + 6 ≤ _)⟩)
    replace X366 : Stand p l e _ s mt args below meth cd T366 L366 4 12 := X366
    obtain ⟨h366, e366⟩ : ∃ z, T366.heap = z := ⟨_, rfl⟩
    rw [e366] at hQ366
    obtain ⟨rfl, Nq366, K366, hs6⟩ := hQ366
    have N366 := own_fr (L := L366) l366 N362 Nq366
    have f367_172 := CHr.trans f363_156 (CHr.keep K366 (allS f363_158 all0) f363_156.1)
    have f367_173 := f363_157.keep K366
    have K369 : Keep h0 h366 [] := Keep.trans K365 K366 (allS (Or.inr z347) all0)
    refine Win.tr ?_ st366
    show Win _ _ _ _ T366 (mkF mt 48 #[.val (.int (2 : Int32)), .val (.int x0), .val (.int x1), .val (.int x2)] [(.ref b345)])
    exact Win.retRX (s := s) (vm₁ := s.vm) X366 (State.WarmedH.since (State.WarmedH.refl s) 0) (Nat.zero_le _) hx hlk e366 hrt rfl rfl rfl (hb hby d29_48) (by decide) (by decide) (by rw [hh]; exact f367_172.trans (CHv.at (s := s) (vm0 := s.vm) X366 hZ (own_EW hw) f367_172.1)) ⟨_, rfl, N366, K369, f367_173, 2, rfl, by decide, hs6⟩
  · show Win _ _ _ _ s₁ (mkF mt 0 #[.val (.int (3 : Int32)), .val (.int x0), .val (.int x1), .val (.int x2)] [])
    refine w_iloadN X0 hx hby d29_0 rfl ?_
    refine Win.st ?_ (fun tq kq => XS.ifYes X0.here hx rfl (pc0 := 1) (pc' := 15) rfl (hb hby d29_1) rfl ((if0 _ _).trans (feq (by decide : ¬ ((3 : Int32) = (0 : Int32)))).2) (by decide) (by decide) kq)
    refine w_iloadN X0 hx hby d29_15 rfl ?_
    refine w_iconst X0 hx hby d29_16 ?_
    refine Win.st ?_ (fun tq kq => XS.icmpYes X0.here hx rfl (pc0 := 17) (pc' := 25) rfl (hb hby d29_17) rfl (feq (by decide : ¬ ((3 : Int32) = (1 : Int32)))).2 (by decide) (by decide) kq)
    refine w_iloadN X0 hx hby d29_25 rfl ?_
    refine w_iconst X0 hx hby d29_26 ?_
    refine Win.st ?_ (fun tq kq => XS.icmpYes X0.here hx rfl (pc0 := 27) (pc' := 49) rfl (hb hby d29_27) rfl (feq (by decide : ¬ ((3 : Int32) = (2 : Int32)))).2 (by decide) (by decide) kq)
    show Win _ _ _ _ s₁ (mkF mt 49 #[.val (.int (3 : Int32)), .val (.int x0), .val (.int x1), .val (.int x2)] [])
    obtain ⟨T370, h370, X370, e370, E370, A370, D370, -, st370⟩ := newO X0 hx hZ hown (ow hw 4 rfl) (ow hw 5 rfl) (ow hw 6 rfl) e0 (g := (mkF mt 49 #[.val (.int (3 : Int32)), .val (.int x0), .val (.int x1), .val (.int x2)] [])) rfl (hb hby d29_49) (by decide) (by decide)
    obtain ⟨b370, gq370⟩ : ∃ z, z = h0.size := ⟨_, rfl⟩
    rw [← gq370] at A370 D370 st370
    have g371 : n0 ≤ b370 := own_newle Z0 gq370
    have z372 : h0.size ≤ b370 := own_newle (Keep.refl h0 []).1 gq370
    have ke370 := own_kext E370
    have sf370 := Safe.ext E370 hC.1 (Safe.new (x := b370) (Nat.le_of_eq gq370.symm))
    replace X370 : Stand p l e _ s mt args below meth cd T370 _ 1 4 := X370
    have f373_199 := O.keep ke370 all0
    have f373_200 := CHr.trans hC (CHr.keep ke370 all0 hC.1)
    have Z374 : n0 ≤ h370.size := Nat.le_trans Z0 ke370.1
    have K375 : Keep h0 h370 [] := Keep.trans (Keep.refl h0 []) ke370 all0
    have fn370_value : Fld Z h370 b370 "java/lang/String" "value" "[B" .null := D370 (Or.inr (ow hw 20 rfl)) (ty := (.array .byte)) (by decide)
    have fn370_coder : Fld Z h370 b370 "java/lang/String" "coder" "B" (.int (0 : Int32)) := D370 (Or.inr (ow hw 21 rfl)) (ty := .byte) (by decide)
    refine Win.st ?_ st370
    show Win _ _ _ _ T370 (mkF mt 52 #[.val (.int (3 : Int32)), .val (.int x0), .val (.int x1), .val (.int x2)] [(.ref b370)])
    refine Win.st ?_ (fun tq kq => XS.dup X370.here hx rfl (hb hby d29_52) rfl rfl kq)
    refine w_iconst X370 hx hby d29_53 ?_
    obtain ⟨T376, h376, k376, X376, e376, E376, A376, st376⟩ := newP X370 hx hZ (ow hw 7 rfl) e370 (g := (mkF mt 54 #[.val (.int (3 : Int32)), .val (.int x0), .val (.int x1), .val (.int x2)] [(.int (3 : Int32)), (.ref b370), (.ref b370)])) rfl (hb hby d29_54) rfl (by decide) (cap := 3) (by decide) (by decide) (by decide) (by decide)
    obtain ⟨b376, gq376⟩ : ∃ z, z = h370.size := ⟨_, rfl⟩
    rw [← gq376] at A376 st376
    have ne377 : b370 ≠ b376 := own_new gq376 A370.lt
    have g378 : n0 ≤ b376 := own_newle Z374 gq376
    have z379 : h0.size ≤ b376 := own_newle K375.1 gq376
    have ke376 := own_kext E376
    replace X376 : Stand p l e _ s mt args below meth cd T376 _ 2 7 := X376
    have f380_217 := f373_199.keep ke376 all0
    have f380_218 := CHr.trans f373_200 (CHr.keep ke376 all0 f373_200.1)
    have f380_219 := A370.keep ke376
    have f380_220 := Safe.keep ke376 all0 f373_200.1 sf370
    have f380_221 := fn370_value.keep ke376 nin0
    have f380_222 := fn370_coder.keep ke376 nin0
    have Z381 : n0 ≤ h376.size := Nat.le_trans Z374 ke376.1
    have K382 : Keep h0 h376 [] := Keep.trans K375 ke376 all0
    have V376 : Arv Z h376 b376 k376 .char (3 : Int32) [(.int (0 : Int32)), (.int (0 : Int32)), (.int (0 : Int32))] (.int (0 : Int32)) := (Arv.new A376 (by decide)).pad (pad_rep [] (.int (0 : Int32)) 3)
    refine Win.st ?_ st376
    show Win _ _ _ _ T376 (mkF mt 56 #[.val (.int (3 : Int32)), .val (.int x0), .val (.int x1), .val (.int x2)] [(.ref b376), (.ref b370), (.ref b370)])
    refine Win.st ?_ (fun tq kq => XS.dup X376.here hx rfl (hb hby d29_56) rfl rfl kq)
    refine w_iconst X376 hx hby d29_57 ?_
    refine w_iloadN X376 hx hby d29_58 rfl ?_
    show Win _ _ _ _ T376 (mkF mt 59 #[.val (.int (3 : Int32)), .val (.int x0), .val (.int x1), .val (.int x2)] [(.int x0), (.int (0 : Int32)), (.ref b376), (.ref b376), (.ref b370), (.ref b370)])
    obtain ⟨T383, h383, L383, X383, N383, e383, kp383, V383, st383⟩ := own_cast (g := (mkF mt 59 #[.val (.int (3 : Int32)), .val (.int x0), .val (.int x1), .val (.int x2)] [(.int x0), (.int (0 : Int32)), (.ref b376), (.ref b376), (.ref b370), (.ref b370)])) X376 hx hZ e376 N0 g378 V376 (j := (0 : Int32)) (by decide) (by decide) (i := 0) rfl (by simp) rfl rfl (hb hby d29_59)
    rw [own_i2c hX0] at V383
    replace V383 : Arv Z h383 b376 k376 .char (3 : Int32) ([(.int x0), (.int (0 : Int32)), (.int (0 : Int32))]) (.int (0 : Int32)) := V383
    have f384_235 := f380_217.keep kp383 (allS g378 all0)
    have f384_236 := CHr.trans f380_218 (CHr.keep kp383 (allS (own_safeA hZ.alike V376 (by decide)) all0) f380_218.1)
    have f384_237 := f380_219.keep kp383
    have f384_238 := Safe.keep kp383 (allS (own_safeA hZ.alike V376 (by decide)) all0) f380_218.1 f380_220
    have f384_239 := f380_221.keep kp383 (ninS ne377 nin0)
    have f384_240 := f380_222.keep kp383 (ninS ne377 nin0)
    have Z385 : n0 ≤ h383.size := Nat.le_trans Z381 kp383.1
    have K386 : Keep h0 h383 [] := Keep.trans K382 kp383 (allS (Or.inr z379) all0)
    refine Win.st ?_ st383
    show Win _ _ _ _ T383 (mkF mt 60 #[.val (.int (3 : Int32)), .val (.int x0), .val (.int x1), .val (.int x2)] [(.ref b376), (.ref b370), (.ref b370)])
    refine Win.st ?_ (fun tq kq => XS.dup X383.here hx rfl (hb hby d29_60) rfl rfl kq)
    refine w_iconst X383 hx hby d29_61 ?_
    refine w_iloadN X383 hx hby d29_62 rfl ?_
    show Win _ _ _ _ T383 (mkF mt 63 #[.val (.int (3 : Int32)), .val (.int x0), .val (.int x1), .val (.int x2)] [(.int x1), (.int (1 : Int32)), (.ref b376), (.ref b376), (.ref b370), (.ref b370)])
    obtain ⟨T387, h387, L387, X387, N387, e387, kp387, V387, st387⟩ := own_cast (g := (mkF mt 63 #[.val (.int (3 : Int32)), .val (.int x0), .val (.int x1), .val (.int x2)] [(.int x1), (.int (1 : Int32)), (.ref b376), (.ref b376), (.ref b370), (.ref b370)])) X383 hx hZ e383 N383 g378 V383 (j := (1 : Int32)) (by decide) (by decide) (i := 1) rfl (by simp) rfl rfl (hb hby d29_63)
    rw [own_i2c hX1] at V387
    replace V387 : Arv Z h387 b376 k376 .char (3 : Int32) ([(.int x0), (.int x1), (.int (0 : Int32))]) (.int (0 : Int32)) := V387
    have f388_252 := f384_235.keep kp387 (allS g378 all0)
    have f388_253 := CHr.trans f384_236 (CHr.keep kp387 (allS (own_safeA hZ.alike V383 (by decide)) all0) f384_236.1)
    have f388_254 := f384_237.keep kp387
    have f388_255 := Safe.keep kp387 (allS (own_safeA hZ.alike V383 (by decide)) all0) f384_236.1 f384_238
    have f388_256 := f384_239.keep kp387 (ninS ne377 nin0)
    have f388_257 := f384_240.keep kp387 (ninS ne377 nin0)
    have Z389 : n0 ≤ h387.size := Nat.le_trans Z385 kp387.1
    have K390 : Keep h0 h387 [] := Keep.trans K386 kp387 (allS (Or.inr z379) all0)
    refine Win.st ?_ st387
    show Win _ _ _ _ T387 (mkF mt 64 #[.val (.int (3 : Int32)), .val (.int x0), .val (.int x1), .val (.int x2)] [(.ref b376), (.ref b370), (.ref b370)])
    refine Win.st ?_ (fun tq kq => XS.dup X387.here hx rfl (hb hby d29_64) rfl rfl kq)
    refine w_iconst X387 hx hby d29_65 ?_
    refine w_iloadN X387 hx hby d29_66 rfl ?_
    show Win _ _ _ _ T387 (mkF mt 67 #[.val (.int (3 : Int32)), .val (.int x0), .val (.int x1), .val (.int x2)] [(.int x2), (.int (2 : Int32)), (.ref b376), (.ref b376), (.ref b370), (.ref b370)])
    obtain ⟨T391, h391, L391, X391, N391, e391, kp391, V391, st391⟩ := own_cast (g := (mkF mt 67 #[.val (.int (3 : Int32)), .val (.int x0), .val (.int x1), .val (.int x2)] [(.int x2), (.int (2 : Int32)), (.ref b376), (.ref b376), (.ref b370), (.ref b370)])) X387 hx hZ e387 N387 g378 V387 (j := (2 : Int32)) (by decide) (by decide) (i := 2) rfl (by simp) rfl rfl (hb hby d29_67)
    rw [own_i2c hX2] at V391
    replace V391 : Arv Z h391 b376 k376 .char (3 : Int32) ([(.int x0), (.int x1), (.int x2)]) (.int (0 : Int32)) := V391
    have f392_269 := f388_252.keep kp391 (allS g378 all0)
    have f392_270 := CHr.trans f388_253 (CHr.keep kp391 (allS (own_safeA hZ.alike V387 (by decide)) all0) f388_253.1)
    have f392_271 := f388_254.keep kp391
    have f392_272 := Safe.keep kp391 (allS (own_safeA hZ.alike V387 (by decide)) all0) f388_253.1 f388_255
    have f392_273 := f388_256.keep kp391 (ninS ne377 nin0)
    have f392_274 := f388_257.keep kp391 (ninS ne377 nin0)
    have Z393 : n0 ≤ h391.size := Nat.le_trans Z389 kp391.1
    have K394 : Keep h0 h391 [] := Keep.trans K390 kp391 (allS (Or.inr z379) all0)
    refine Win.st ?_ st391
    show Win _ _ _ _ T391 (mkF mt 68 #[.val (.int (3 : Int32)), .val (.int x0), .val (.int x1), .val (.int x2)] [(.ref b376), (.ref b370), (.ref b370)])
    obtain ⟨v395, _, ⟨T395, L395, k395, n395⟩, -, X395, ⟨Lc395, hQ395, l395, rfl, rfl⟩, st395⟩ := X391.specialBack hx (y := y_28) rfl hown (mvT hZ (ow hw 8 rfl)) (mvT hZ (ow hw 9 rfl)) (mvT hZ (ow hw 10 rfl)) (by decide) (backOf (W := 1) (rm_si3_3 l Z a0 hw [] b370 b376 k376 x0 x1 x2 h391 n0 Z393 f392_271 f392_273 f392_274 g371 ST f392_269 V391 (Ne.symm ne377) hX0 hX1 hX2) hZ (ow hw 10 rfl) (ow hw 6 rfl) (by decide) (by decide)) (g := (mkF mt 68 #[.val (.int (3 : Int32)), .val (.int x0), .val (.int x1), .val (.int x2)] [(.ref b376), (.ref b370), (.ref b370)])) rfl (by rw [hml]; rfl) (Steps.refl _) (a := b370) (argsL := [(.ref b376)]) (rest := [(.ref b370)]) (lenOf pd_19 rfl) rfl (wz rfl) (hb hby d29_68) (fun _ _ => ⟨rfl, e391, (by decide : 2 + 2 ≤ _), (by decide : 7 + 9 ≤ _)⟩)
    replace X395 : Stand p l e _ s mt args below meth cd T395 L395 4 16 := X395
    obtain ⟨h395, e395⟩ : ∃ z, T395.heap = z := ⟨_, rfl⟩
    rw [e395] at hQ395
    obtain ⟨rfl, Nq395, K395, hs6⟩ := hQ395
    have N395 := own_fr (L := L395) l395 N391 Nq395
    have f396_286 := CHr.trans f392_270 (CHr.keep K395 (allS f392_272 all0) f392_270.1)
    have f396_287 := f392_271.keep K395
    have K398 : Keep h0 h395 [] := Keep.trans K394 K395 (allS (Or.inr z372) all0)
    refine Win.tr ?_ st395
    show Win _ _ _ _ T395 (mkF mt 71 #[.val (.int (3 : Int32)), .val (.int x0), .val (.int x1), .val (.int x2)] [(.ref b370)])
    exact Win.retRX (s := s) (vm₁ := s.vm) X395 (State.WarmedH.since (State.WarmedH.refl s) 0) (Nat.zero_le _) hx hlk e395 hrt rfl rfl rfl (hb hby d29_71) (by decide) (by decide) (by rw [hh]; exact f396_286.trans (CHv.at (s := s) (vm0 := s.vm) X395 hZ (own_EW hw) f396_286.1)) ⟨_, rfl, N395, K398, f396_287, 3, rfl, by decide, hs6⟩
abbrev k30 : ByteArray := jdk_68_method_2_code
theorem d30_0 : decode k30 0 = .ok (.aload_n 0, 1) := by decide +kernel
theorem d30_1 : decode k30 1 = .ok (.invokespecial 3, 3) := by decide +kernel
theorem d30_4 : decode k30 4 = .ok (.getstatic 18, 3) := by decide +kernel
theorem d30_7 : decode k30 7 = .ok (.ifCond .eq 18, 3) := by decide +kernel
theorem d30_10 : decode k30 10 = .ok (.aload_n 0, 1) := by decide +kernel
theorem d30_11 : decode k30 11 = .ok (.iload_n 1, 1) := by decide +kernel
theorem d30_12 : decode k30 12 = .ok (.newarray .byte, 2) := by decide +kernel
theorem d30_14 : decode k30 14 = .ok (.putfield 15, 3) := by decide +kernel
theorem d30_17 : decode k30 17 = .ok (.aload_n 0, 1) := by decide +kernel
theorem d30_18 : decode k30 18 = .ok (.iconst 0, 1) := by decide +kernel
theorem d30_19 : decode k30 19 = .ok (.putfield 22, 3) := by decide +kernel
theorem d30_22 : decode k30 22 = .ok (.goto 16, 3) := by decide +kernel
theorem d30_38 : decode k30 38 = .ok (.return_, 1) := by decide +kernel
abbrev y_30 : MethodName := ⟨"java/lang/AbstractStringBuilder", "<init>", "(I)V"⟩
abbrev r_bini : Room := { frames := 1, cells := 1, slots := 16, locals := 12 }
theorem ef_bini (mt : MethodId) (a : Addr) : entryFrame mt #[(.ref a), (.int (16 : Int32))] 2 = mkF mt 0 #[.val (.ref a), .val (.int (16 : Int32))] [] := by first | (simp [entryFrame, mkF, argsToLocals, Value.category]; done) | rfl
def Q_bini (Z : State) (a : Addr) (f : Nat → Int32) (h0 : Heap) (n0 : Nat) (v : Option Value) (h : Heap) (L : List Loc) : Prop := v = none ∧ Fr n0 L ∧ Keep h0 h [a] ∧ ∃ (t : Addr) (k : ClassId) (z : Int32) (vs : List Value) (cd : Int32), h0.size ≤ t ∧ n0 ≤ t ∧ Fld Z h a "java/lang/AbstractStringBuilder" "value" "[B" (.ref t) ∧ Fld Z h a "java/lang/AbstractStringBuilder" "coder" "B" (.int cd) ∧ Fld Z h a "java/lang/AbstractStringBuilder" "count" "I" (.int (own_I 0)) ∧ Fld Z h a "java/lang/AbstractStringBuilder" "maybeLatin1" "Z" (.int (0 : Int32)) ∧ Arv Z h t k .byte z vs (.int (0 : Int32)) ∧ Exa Z h t "[B" ∧ own_W cd z 0 f vs
theorem rm_bini (l : Launch) (Z : State) (a0 : Array Value) (hw : ∀ d ∈ tables_1, d.before a0 Z = true) (ws : List Jvm.Cond) (a : Addr) (f : Nat → Int32) (h0 : Heap) (n0 : Nat) (Z0 : n0 ≤ h0.size) (BE : Exa Z h0 a "java/lang/StringBuilder") (Bv : Fld Z h0 a "java/lang/AbstractStringBuilder" "value" "[B" .null) (Bc : Fld Z h0 a "java/lang/AbstractStringBuilder" "coder" "B" (.int (0 : Int32))) (Bn : Fld Z h0 a "java/lang/AbstractStringBuilder" "count" "I" (.int (0 : Int32))) (Bm : Fld Z h0 a "java/lang/AbstractStringBuilder" "maybeLatin1" "Z" (.int (0 : Int32))) (ga : n0 ≤ a) (ST : own_St Z) (O : Old Z n0 h0) :
    Met l y_30 k30 2 none ws r_bini #[(.ref a), (.int (16 : Int32))] Z h0 (Q_bini Z a f h0 n0) := by
  refine MetFree.of_bodySF (plainFor_of_name pn_1) hisR ?_
  intro p e s mt args below meth cd s₁ Bd hml0 hP hK
  obtain ⟨hA, hZ, hh⟩ := hP
  have hx := Bd.exec
  have hby := Bd.bytes
  have hml : cd.maxLocals = 2 := hml0
  have hown : s.vm.findClass "java/lang/AbstractStringBuilder" = some mt.cls := findClass_of_methodNamed Bd.named
  have hlk : meth.locks = false := BodyLoose.notSynchronized Bd
  have hrt := Bd.returns
  have X0 : Stand p l e r_bini s mt args below meth cd s₁ [] 0 0 := Stand.of_body Bd
  have e0 : s₁.heap = h0 := by rw [← hh, Bd.state]; rfl
  have N0 := Fr.nil n0
  show Win p e below (Ends s (Q_bini Z a f h0 n0) r_bini.cells r_bini.slots) s₁ (entryFrame mt args 2)
  rw [hA, ef_bini]
  obtain ⟨cs, u, S0, hcs, S1, hu, S2, S3, S4⟩ := id ST
  refine w_aloadN X0 hx hby d30_0 rfl rfl ?_
  show Win _ _ _ _ s₁ (mkF mt 1 #[.val (.ref a), .val (.int (16 : Int32))] [(.ref a)])
  obtain ⟨T399, X399, e399, st399⟩ := initO X0 hx hZ hown (ow hw 45 rfl) (ow hw 16 rfl) (ow hw 17 rfl) e0 (g := (mkF mt 1 #[.val (.ref a), .val (.int (16 : Int32))] [(.ref a)])) rfl (by rw [hml]; rfl) rfl (hb hby d30_1) (by decide) (W := 0) (by show 2 * 0 + _ ≤ _; exact Nat.le_of_eq rfl) (by decide)
  refine Win.st ?_ st399
  show Win _ _ _ _ T399 (mkF mt 4 #[.val (.ref a), .val (.int (16 : Int32))] [])
  obtain ⟨T400, X400, e400, st400⟩ := getS2 X399 hx hZ hown (host := "") (Or.inl (ow hw 46 rfl)) Via.refl e399 (S0.ext O.2) (g := (mkF mt 4 #[.val (.ref a), .val (.int (16 : Int32))] [])) rfl (hb hby d30_4)
  refine Win.st ?_ st400
  show Win _ _ _ _ T400 (mkF mt 7 #[.val (.ref a), .val (.int (16 : Int32))] [(.int cs)])
  refine Win.st ?_ (fun tq kq => XS.ifNo X400.here hx rfl (hb hby d30_7) rfl ((if0 _ _).trans (feq hcs).1) kq)
  refine w_aloadN X400 hx hby d30_10 rfl rfl ?_
  refine w_iloadN X400 hx hby d30_11 rfl ?_
  obtain ⟨T401, h401, k401, X401, e401, E401, A401, Ex401, st401⟩ := newPE X400 hx hZ (ow hw 19 rfl) e400 (g := (mkF mt 12 #[.val (.ref a), .val (.int (16 : Int32))] [(.int (16 : Int32)), (.ref a)])) rfl (hb hby d30_12) rfl (by decide) (cap := 16) (by decide) (by decide) (by decide) (by decide) (ad := "[B") (by decide)
  obtain ⟨b401, gq401⟩ : ∃ z, z = h0.size := ⟨_, rfl⟩
  rw [← gq401] at A401 st401 Ex401
  have ne402 : a ≠ b401 := own_new gq401 BE.lt
  have g403 : n0 ≤ b401 := own_newle Z0 gq401
  have z404 : h0.size ≤ b401 := own_newle (Keep.refl h0 [a]).1 gq401
  have ke401 := own_kext E401
  replace X401 : Stand p l e _ s mt args below meth cd T401 _ 1 16 := X401
  have f405_21 := BE.keep ke401
  have f405_22 := Bv.keep ke401 nin0
  have f405_23 := Bc.keep ke401 nin0
  have f405_24 := Bn.keep ke401 nin0
  have f405_25 := Bm.keep ke401 nin0
  have K407 : Keep h0 h401 [a] := Keep.trans (Keep.refl h0 [a]) ke401 all0
  have V401 : Arv Z h401 b401 k401 .byte (16 : Int32) [(.int (0 : Int32)), (.int (0 : Int32)), (.int (0 : Int32)), (.int (0 : Int32)), (.int (0 : Int32)), (.int (0 : Int32)), (.int (0 : Int32)), (.int (0 : Int32)), (.int (0 : Int32)), (.int (0 : Int32)), (.int (0 : Int32)), (.int (0 : Int32)), (.int (0 : Int32)), (.int (0 : Int32)), (.int (0 : Int32)), (.int (0 : Int32))] (.int (0 : Int32)) := (Arv.new A401 (by decide)).pad (pad_rep [] (.int (0 : Int32)) 16)
  refine Win.st ?_ st401
  show Win _ _ _ _ T401 (mkF mt 14 #[.val (.ref a), .val (.int (16 : Int32))] [(.ref b401), (.ref a)])
  obtain ⟨T408, h408, X408, e408, W408, st408⟩ := putF X401 hx hZ hown (host := "") (Or.inl (ow hw 47 rfl)) Via.refl e401 f405_22 f405_21 (Or.inl (ow hw 48 rfl)) (ow hw 34 rfl) (ty := (.array .byte)) (by decide) rfl rfl (g := (mkF mt 14 #[.val (.ref a), .val (.int (16 : Int32))] [(.ref b401), (.ref a)])) rfl rfl (hb hby d30_14)
  obtain ⟨L408, X408, N408⟩ := own_hide X408 N0 ga
  have kp408 := Keep.of_wr W408
  have fw408 := f405_22.same W408
  have f408_35 := f405_23.other W408 (Or.inr (slot_ne (Or.inl (ow hw 50 rfl)) (Or.inl (ow hw 48 rfl)) (by decide) (t := .byte) (t' := (.array .byte)) (by decide) (by decide)))
  have f408_36 := f405_24.other W408 (Or.inr (slot_ne (Or.inl (ow hw 73 rfl)) (Or.inl (ow hw 48 rfl)) (by decide) (t := .int) (t' := (.array .byte)) (by decide) (by decide)))
  have f408_37 := f405_25.other W408 (Or.inr (slot_ne (Or.inl (ow hw 299 rfl)) (Or.inl (ow hw 48 rfl)) (by decide) (t := .boolean) (t' := (.array .byte)) (by decide) (by decide)))
  have f409_39 := f405_21.keep kp408
  have f409_40 := V401.keep kp408 (ninS (Ne.symm ne402) nin0)
  have f409_41 := Ex401.keep kp408
  have K411 : Keep h0 h408 [a] := Keep.trans K407 kp408 (allS (Or.inl (List.mem_of_getElem? (i := 0) rfl)) all0)
  refine Win.st ?_ st408
  refine w_aloadN X408 hx hby d30_17 rfl rfl ?_
  refine w_iconst X408 hx hby d30_18 ?_
  show Win _ _ _ _ T408 (mkF mt 19 #[.val (.ref a), .val (.int (16 : Int32))] [(.int (0 : Int32)), (.ref a)])
  obtain ⟨T412, h412, X412, e412, W412, st412⟩ := putFN X408 hx hZ hown (ow hw 49 rfl) Via.refl e408 f408_35 f409_39 (Or.inl (ow hw 50 rfl)) (ow hw 34 rfl) (ty := .byte) (v' := (.int (0 : Int32))) (by decide) rfl (by decide) (g := (mkF mt 19 #[.val (.ref a), .val (.int (16 : Int32))] [(.int (0 : Int32)), (.ref a)])) rfl rfl (hb hby d30_19)
  obtain ⟨L412, X412, N412⟩ := own_hide X412 N408 ga
  have kp412 := Keep.of_wr W412
  have f412_51 := fw408.other W412 (Or.inr (slot_ne (Or.inl (ow hw 48 rfl)) (Or.inl (ow hw 50 rfl)) (by decide) (t := (.array .byte)) (t' := .byte) (by decide) (by decide)))
  have fw412 := f408_35.same W412
  have f412_53 := f408_36.other W412 (Or.inr (slot_ne (Or.inl (ow hw 73 rfl)) (Or.inl (ow hw 50 rfl)) (by decide) (t := .int) (t' := .byte) (by decide) (by decide)))
  have f412_54 := f408_37.other W412 (Or.inr (slot_ne (Or.inl (ow hw 299 rfl)) (Or.inl (ow hw 50 rfl)) (by decide) (t := .boolean) (t' := .byte) (by decide) (by decide)))
  have f413_57 := f409_40.keep kp412 (ninS (Ne.symm ne402) nin0)
  have f413_58 := f409_41.keep kp412
  have K415 : Keep h0 h412 [a] := Keep.trans K411 kp412 (allS (Or.inl (List.mem_of_getElem? (i := 0) rfl)) all0)
  refine Win.st ?_ st412
  show Win _ _ _ _ T412 (mkF mt 22 #[.val (.ref a), .val (.int (16 : Int32))] [])
  refine Win.st ?_ (fun tq kq => XS.goto X412.here hx rfl (pc0 := 22) (pc' := 38) rfl (hb hby d30_22) (by decide) (by decide) kq)
  show Win _ _ _ _ T412 (mkF mt 38 #[.val (.ref a), .val (.int (16 : Int32))] [])
  exact Win.retV X412 hx hlk e412 hrt (hb hby d30_38) (by decide) (by decide) ⟨rfl, N412, K415, _, _, _, _, _, z404, g403, f412_51, fw412, f412_53, f412_54, f413_57, f413_58, own_W00 f⟩
abbrev k31 : ByteArray := jdk_67_method_1_code
theorem d31_0 : decode k31 0 = .ok (.aload_n 0, 1) := by decide +kernel
theorem d31_1 : decode k31 1 = .ok (.bipush 16, 2) := by decide +kernel
theorem d31_3 : decode k31 3 = .ok (.invokespecial 1, 3) := by decide +kernel
theorem pd_21 : parseMethodDescriptor "(I)V" = some ⟨[.int], none⟩ := by decide +kernel
theorem d31_6 : decode k31 6 = .ok (.return_, 1) := by decide +kernel
abbrev y_31 : MethodName := ⟨"java/lang/StringBuilder", "<init>", "()V"⟩
abbrev r_sbini : Room := { frames := 2, cells := 1, slots := 16, locals := 25 }
theorem pn_6 : plainName "java/lang/StringBuilder" = true := by first | (simp [plainName, overriddenIn]; done) | decide +kernel
theorem ef_sbini (mt : MethodId) (a : Addr) : entryFrame mt #[(.ref a)] 1 = mkF mt 0 #[.val (.ref a)] [] := by first | (simp [entryFrame, mkF, argsToLocals, Value.category]; done) | rfl
def Q_sbini (Z : State) (a : Addr) (f : Nat → Int32) (h0 : Heap) (n0 : Nat) (v : Option Value) (h : Heap) (L : List Loc) : Prop := v = none ∧ Fr n0 L ∧ Keep h0 h [a] ∧ ∃ (t : Addr) (k : ClassId) (z : Int32) (vs : List Value) (cd : Int32), h0.size ≤ t ∧ n0 ≤ t ∧ Fld Z h a "java/lang/AbstractStringBuilder" "value" "[B" (.ref t) ∧ Fld Z h a "java/lang/AbstractStringBuilder" "coder" "B" (.int cd) ∧ Fld Z h a "java/lang/AbstractStringBuilder" "count" "I" (.int (own_I 0)) ∧ Fld Z h a "java/lang/AbstractStringBuilder" "maybeLatin1" "Z" (.int (0 : Int32)) ∧ Arv Z h t k .byte z vs (.int (0 : Int32)) ∧ Exa Z h t "[B" ∧ own_W cd z 0 f vs
theorem rm_sbini (l : Launch) (Z : State) (a0 : Array Value) (hw : ∀ d ∈ tables_1, d.before a0 Z = true) (ws : List Jvm.Cond) (a : Addr) (f : Nat → Int32) (h0 : Heap) (n0 : Nat) (Z0 : n0 ≤ h0.size) (BE : Exa Z h0 a "java/lang/StringBuilder") (Bv : Fld Z h0 a "java/lang/AbstractStringBuilder" "value" "[B" .null) (Bc : Fld Z h0 a "java/lang/AbstractStringBuilder" "coder" "B" (.int (0 : Int32))) (Bn : Fld Z h0 a "java/lang/AbstractStringBuilder" "count" "I" (.int (0 : Int32))) (Bm : Fld Z h0 a "java/lang/AbstractStringBuilder" "maybeLatin1" "Z" (.int (0 : Int32))) (ga : n0 ≤ a) (ST : own_St Z) (O : Old Z n0 h0) :
    Met l y_31 k31 1 none ws r_sbini #[(.ref a)] Z h0 (Q_sbini Z a f h0 n0) := by
  refine MetFree.of_bodySF (plainFor_of_name pn_6) hisR ?_
  intro p e s mt args below meth cd s₁ Bd hml0 hP hK
  obtain ⟨hA, hZ, hh⟩ := hP
  have hx := Bd.exec
  have hby := Bd.bytes
  have hml : cd.maxLocals = 1 := hml0
  have hown : s.vm.findClass "java/lang/StringBuilder" = some mt.cls := findClass_of_methodNamed Bd.named
  have hlk : meth.locks = false := BodyLoose.notSynchronized Bd
  have hrt := Bd.returns
  have X0 : Stand p l e r_sbini s mt args below meth cd s₁ [] 0 0 := Stand.of_body Bd
  have e0 : s₁.heap = h0 := by rw [← hh, Bd.state]; rfl
  have N0 := Fr.nil n0
  show Win p e below (Ends s (Q_sbini Z a f h0 n0) r_sbini.cells r_sbini.slots) s₁ (entryFrame mt args 1)
  rw [hA, ef_sbini]
  obtain ⟨cs, u, S0, hcs, S1, hu, S2, S3, S4⟩ := id ST
  refine w_aloadN X0 hx hby d31_0 rfl rfl ?_
  refine w_bipush X0 hx hby d31_1 ?_
  show Win _ _ _ _ s₁ (mkF mt 3 #[.val (.ref a)] [(.int (16 : Int32)), (.ref a)])
  obtain ⟨v416, _, ⟨T416, L416, k416, n416⟩, -, X416, ⟨Lc416, hQ416, l416, rfl, rfl⟩, st416⟩ := X0.specialBack hx (y := y_30) rfl hown (mvT hZ (ow hw 39 rfl)) (mvT hZ (ow hw 40 rfl)) (mvT hZ (ow hw 44 rfl)) (by decide) (backOf (W := 0) (rm_bini l Z a0 hw [] a f h0 n0 Z0 BE Bv Bc Bn Bm ga ST O) hZ (ow hw 44 rfl) (ow hw 43 rfl) (by decide) (by decide)) (g := (mkF mt 3 #[.val (.ref a)] [(.int (16 : Int32)), (.ref a)])) rfl (by rw [hml]; rfl) (Steps.refl _) (a := a) (argsL := [(.int (16 : Int32))]) (rest := []) (lenOf pd_21 rfl) rfl (wz rfl) (hb hby d31_3) (fun _ _ => ⟨rfl, e0, (by decide : 0 + 1 ≤ _), (by decide : 0 + 16 ≤ _)⟩)
  replace X416 : Stand p l e _ s mt args below meth cd T416 L416 1 16 := X416
  obtain ⟨h416, e416⟩ : ∃ z, T416.heap = z := ⟨_, rfl⟩
  rw [e416] at hQ416
  obtain ⟨rfl, Nq416, K416, hs6⟩ := hQ416
  have N416 := own_fr (L := L416) l416 N0 Nq416
  have K419 : Keep h0 h416 [a] := Keep.trans (Keep.refl h0 [a]) K416 (allS (Or.inl (List.mem_of_getElem? (i := 0) rfl)) all0)
  refine Win.tr ?_ st416
  show Win _ _ _ _ T416 (mkF mt 6 #[.val (.ref a)] [])
  exact Win.retV X416 hx hlk e416 hrt (hb hby d31_6) (by decide) (by decide) ⟨rfl, N416, K419, hs6⟩
abbrev k32 : ByteArray := jdk_52_method_86_code
theorem d32_0 : decode k32 0 = .ok (.iload_n 3, 1) := by decide +kernel
theorem d32_1 : decode k32 1 = .ok (.iload 4, 2) := by decide +kernel
theorem d32_3 : decode k32 3 = .ok (.aload_n 2, 1) := by decide +kernel
theorem d32_4 : decode k32 4 = .ok (.invokestatic 173, 3) := by decide +kernel
theorem pd_22 : parseMethodDescriptor "(II[B)V" = some ⟨[.int, .int, (.array .byte)], none⟩ := by decide +kernel
theorem d32_7 : decode k32 7 = .ok (.iconst 0, 1) := by decide +kernel
theorem d32_8 : decode k32 8 = .ok (.istore 5, 2) := by decide +kernel
theorem d32_10 : decode k32 10 = .ok (.iload 5, 2) := by decide +kernel
theorem d32_12 : decode k32 12 = .ok (.iload 4, 2) := by decide +kernel
theorem d32_14 : decode k32 14 = .ok (.if_icmp .ge 27, 3) := by decide +kernel
theorem d32_41 : decode k32 41 = .ok (.return_, 1) := by decide +kernel
theorem d32_17 : decode k32 17 = .ok (.aload_n 2, 1) := by decide +kernel
theorem d32_18 : decode k32 18 = .ok (.iload_n 3, 1) := by decide +kernel
theorem d32_19 : decode k32 19 = .ok (.iinc 3 1, 3) := by decide +kernel
theorem d32_22 : decode k32 22 = .ok (.aload_n 0, 1) := by decide +kernel
theorem d32_23 : decode k32 23 = .ok (.iload_n 1, 1) := by decide +kernel
theorem d32_24 : decode k32 24 = .ok (.iinc 1 1, 3) := by decide +kernel
theorem d32_27 : decode k32 27 = .ok (.baload, 1) := by decide +kernel
theorem d32_28 : decode k32 28 = .ok (.sipush 255, 3) := by decide +kernel
theorem d32_31 : decode k32 31 = .ok (.iand, 1) := by decide +kernel
theorem d32_32 : decode k32 32 = .ok (.invokestatic 111, 3) := by decide +kernel
theorem d32_35 : decode k32 35 = .ok (.iinc 5 1, 3) := by decide +kernel
theorem d32_38 : decode k32 38 = .ok (.goto (-28), 3) := by decide +kernel
abbrev y_32 : MethodName := ⟨"java/lang/StringUTF16", "inflate", "([BI[BII)V"⟩
abbrev r_infu : Room := { frames := 3, cells := 0, slots := 0, locals := 43 }
theorem ef_infu (mt : MethodId) (a : Addr) (b : Addr) (d : Nat) (m_ : Nat) : entryFrame mt #[(.ref a), (.int (0 : Int32)), (.ref b), (.int (own_I d)), (.int (own_I m_))] 6 = mkF mt 0 #[.val (.ref a), .val (.int (0 : Int32)), .val (.ref b), .val (.int (own_I d)), .val (.int (own_I m_)), .unset] [] := by first | (simp [entryFrame, mkF, argsToLocals, Value.category]; done) | rfl
def Q_infu (Z : State) (a : Addr) (b : Addr) (ka : ClassId) (wN : Nat) (va : List Value) (kb : ClassId) (vb : List Value) (d : Nat) (m_ : Nat) (f : Nat → Int32) (h0 : Heap) (n0 : Nat) (v : Option Value) (h : Heap) (L : List Loc) : Prop := v = none ∧ Fr n0 L ∧ Keep h0 h [b] ∧ ∃ vs : List Value, vs.length = 32 ∧ Arv Z h b kb .byte (32 : Int32) vs (.int (0 : Int32)) ∧ own_E1 f (d + m_) vs
theorem rm_infu (l : Launch) (Z : State) (a0 : Array Value) (hw : ∀ d ∈ tables_1, d.before a0 Z = true) (ws : List Jvm.Cond) (a : Addr) (b : Addr) (ka : ClassId) (wN : Nat) (va : List Value) (kb : ClassId) (vb : List Value) (d : Nat) (m_ : Nat) (f : Nat → Int32) (h0 : Heap) (n0 : Nat) (Z0 : n0 ≤ h0.size) (VA : Arv Z h0 a ka .byte (own_I wN) va (.int (0 : Int32))) (hw1 : m_ ≤ wN) (hw2 : wN ≤ 32) (VB : Arv Z h0 b kb .byte (32 : Int32) vb (.int (0 : Int32))) (hl : vb.length = 32) (hd : d + m_ ≤ 16) (Hs : ∀ i, i < m_ → own_B (f (d + i)) ∧ va.getD i (.int (0 : Int32)) = .int ((f (d + i)).toInt8.toInt32)) (HD : own_E1 f d vb) (nab : a ≠ b) (gb : n0 ≤ b) (ST : own_St Z) (O : Old Z n0 h0) :
    Met l y_32 k32 6 none ws r_infu #[(.ref a), (.int (0 : Int32)), (.ref b), (.int (own_I d)), (.int (own_I m_))] Z h0 (Q_infu Z a b ka wN va kb vb d m_ f h0 n0) := by
  refine MetFree.of_bodySF (plainFor_of_name pn_3) hisR ?_
  intro p e s mt args below meth cd s₁ Bd hml0 hP hK
  obtain ⟨hA, hZ, hh⟩ := hP
  have hx := Bd.exec
  have hby := Bd.bytes
  have hml : cd.maxLocals = 6 := hml0
  have hown : s.vm.findClass "java/lang/StringUTF16" = some mt.cls := findClass_of_methodNamed Bd.named
  have hlk : meth.locks = false := BodyLoose.notSynchronized Bd
  have hrt := Bd.returns
  have X0 : Stand p l e r_infu s mt args below meth cd s₁ [] 0 0 := Stand.of_body Bd
  have e0 : s₁.heap = h0 := by rw [← hh, Bd.state]; rfl
  have N0 := Fr.nil n0
  show Win p e below (Ends s (Q_infu Z a b ka wN va kb vb d m_ f h0 n0) r_infu.cells r_infu.slots) s₁ (entryFrame mt args 6)
  rw [hA, ef_infu]
  obtain ⟨cs, u, S0, hcs, S1, hu, S2, S3, S4⟩ := id ST
  refine w_iloadN X0 hx hby d32_0 rfl ?_
  refine w_iload X0 hx hby d32_1 rfl ?_
  refine w_aloadN X0 hx hby d32_3 rfl rfl ?_
  show Win _ _ _ _ s₁ (mkF mt 4 #[.val (.ref a), .val (.int (0 : Int32)), .val (.ref b), .val (.int (own_I d)), .val (.int (own_I m_)), .unset] [(.ref b), (.int (own_I m_)), (.int (own_I d))])
  obtain ⟨v420, _, ⟨T420, L420, k420, n420⟩, -, X420, ⟨Lc420, hQ420, l420, rfl, rfl⟩, st420⟩ := Jvm.LawKit.callS X0 hx (y := y_10) hown (mvT hZ (ow hw 285 rfl)) (mvT hZ (ow hw 286 rfl)) (mvT hZ (ow hw 232 rfl)) (mvT hZ (ow hw 287 rfl)) (by decide) (backOf (W := 0) (rm_ucb l Z a0 hw [] (own_I d) (own_I m_) b kb (32 : Int32) vb h0 n0 Z0 VB (own_chk1 hd) (own_chk2 hd) ST O) hZ (ow hw 287 rfl) (ow hw 232 rfl) (by decide) (by decide)) (g := (mkF mt 4 #[.val (.ref a), .val (.int (0 : Int32)), .val (.ref b), .val (.int (own_I d)), .val (.int (own_I m_)), .unset] [(.ref b), (.int (own_I m_)), (.int (own_I d))])) rfl (by rw [hml]; rfl) (argsL := [(.int (own_I d)), (.int (own_I m_)), (.ref b)]) (rest := []) (lenOf pd_22 rfl) rfl (wz rfl) (hb hby d32_4) (fun _ _ => ⟨rfl, e0, (by decide : 0 + 0 ≤ _), (by decide : 0 + 0 ≤ _)⟩)
  replace X420 : Stand p l e _ s mt args below meth cd T420 L420 0 0 := X420
  obtain ⟨rfl, Nq420, eh420⟩ := hQ420
  have N420 := own_fr (L := L420) l420 N0 Nq420
  refine Win.st ?_ st420
  refine w_iconst X420 hx hby d32_7 ?_
  refine Win.st ?_ (fun tq kq => XS.istore X420.here hx rfl (hb hby d32_8) rfl (l' := #[.val (.ref a), .val (.int (0 : Int32)), .val (.ref b), .val (.int (own_I d)), .val (.int (own_I m_)), .val (.int (0 : Int32))]) rfl kq)
  show Win _ _ _ _ T420 (mkF mt 10 #[.val (.ref a), .val (.int (0 : Int32)), .val (.ref b), .val (.int (own_I d)), .val (.int (own_I m_)), .val (.int (0 : Int32))] [])
  have lp : ∀ (kk ii : Nat) (T421 : State) (h421 : Heap) (L421 : List Loc) (vb' : List Value), ii + kk = m_ → Stand p l e r_infu s mt args below meth cd T421 L421 0 0 → T421.heap = h421 → Fr n0 L421 → n0 ≤ h421.size → Keep h0 h421 [b] → (vb'.length = 32) → (own_E1 f (d + ii) vb') → Old Z n0 h421 → Arv Z h421 a ka .byte (own_I wN) va (.int (0 : Int32)) → Arv Z h421 b kb .byte (32 : Int32) vb' (.int (0 : Int32)) → Win p e below (Ends s (Q_infu Z a b ka wN va kb vb d m_ f h0 n0) r_infu.cells r_infu.slots) T421 (mkF mt 10 #[.val (.ref a), .val (.int (own_I ii)), .val (.ref b), .val (.int (own_I (d + ii))), .val (.int (own_I m_)), .val (.int (own_I ii))] []) := by
    intro kk
    induction kk with
    | zero =>
      intro ii T421 h421 L421 vb' hi X421 e421 N421 Z421 K421 hvl0 HE f421_0 f421_1 f421_2
      have hvl : vb'.length = 32 := hvl0
      refine w_iload X421 hx hby d32_10 rfl ?_
      refine w_iload X421 hx hby d32_12 rfl ?_
      refine Win.st ?_ (fun tq kq => XS.icmpYes X421.here hx rfl (pc0 := 14) (pc' := 41) rfl (hb hby d32_14) rfl (flt (own_I_nlt (by omega) (by omega))).2.1 (by decide) (by decide) kq)
      show Win _ _ _ _ T421 (mkF mt 41 #[.val (.ref a), .val (.int (own_I ii)), .val (.ref b), .val (.int (own_I (d + ii))), .val (.int (own_I m_)), .val (.int (own_I ii))] [])
      exact Win.retV X421 hx hlk e421 hrt (hb hby d32_41) (by decide) (by decide) ⟨rfl, N421, K421, _, hvl, f421_2, (show ii = m_ by omega) ▸ HE⟩
    | succ kk ih =>
      intro ii T421 h421 L421 vb' hi X421 e421 N421 Z421 K421 hvl0 HE f421_0 f421_1 f421_2
      have hvl : vb'.length = 32 := hvl0
      refine w_iload X421 hx hby d32_10 rfl ?_
      refine w_iload X421 hx hby d32_12 rfl ?_
      refine Win.st ?_ (fun tq kq => XS.icmpNo X421.here hx rfl (hb hby d32_14) rfl (tlt (own_I_lt (by omega) (by omega))).2.1 kq)
      refine w_aloadN X421 hx hby d32_17 rfl rfl ?_
      refine w_iloadN X421 hx hby d32_18 rfl ?_
      refine Win.st ?_ (fun tq kq => XS.iinc X421.here hx rfl (hb hby d32_19) rfl (l' := #[.val (.ref a), .val (.int (own_I ii)), .val (.ref b), .val (.int ((own_I (d + ii)) + (1 : Int32))), .val (.int (own_I m_)), .val (.int (own_I ii))]) rfl kq)
      refine w_aloadN X421 hx hby d32_22 rfl rfl ?_
      refine w_iloadN X421 hx hby d32_23 rfl ?_
      refine Win.st ?_ (fun tq kq => XS.iinc X421.here hx rfl (hb hby d32_24) rfl (l' := #[.val (.ref a), .val (.int ((own_I ii) + (1 : Int32))), .val (.ref b), .val (.int ((own_I (d + ii)) + (1 : Int32))), .val (.int (own_I m_)), .val (.int (own_I ii))]) rfl kq)
      show Win _ _ _ _ T421 (mkF mt 27 #[.val (.ref a), .val (.int ((own_I ii) + (1 : Int32))), .val (.ref b), .val (.int ((own_I (d + ii)) + (1 : Int32))), .val (.int (own_I m_)), .val (.int (own_I ii))] [(.int (own_I ii)), (.ref a), (.int (own_I (d + ii))), (.ref b)])
      refine Win.st ?_ (own_bald (g := (mkF mt 27 #[.val (.ref a), .val (.int ((own_I ii) + (1 : Int32))), .val (.ref b), .val (.int ((own_I (d + ii)) + (1 : Int32))), .val (.int (own_I m_)), .val (.int (own_I ii))] [(.int (own_I ii)), (.ref a), (.int (own_I (d + ii))), (.ref b)])) X421 hx hZ e421 f421_1 (j := (own_I ii)) (v := (.int ((f (d + ii)).toInt8.toInt32))) (own_I_nn (by omega)) (own_I_lt (by omega) (by omega)) (by rw [own_I_cl (by omega)]; exact (Hs ii (by omega)).2) rfl rfl (hb hby d32_27))
      refine w_sipush X421 hx hby d32_28 ?_
      refine Win.st ?_ (fun tq kq => XS.iand X421.here hx rfl (hb hby d32_31) rfl kq)
      show Win _ _ _ _ T421 (mkF mt 32 #[.val (.ref a), .val (.int ((own_I ii) + (1 : Int32))), .val (.ref b), .val (.int ((own_I (d + ii)) + (1 : Int32))), .val (.int (own_I m_)), .val (.int (own_I ii))] [(.int (((f (d + ii)).toInt8.toInt32) &&& (255 : Int32))), (.int (own_I (d + ii))), (.ref b)])
      rw [own_byte (Hs ii (by omega)).1]
      show Win _ _ _ _ T421 (mkF mt 32 #[.val (.ref a), .val (.int ((own_I ii) + (1 : Int32))), .val (.ref b), .val (.int ((own_I (d + ii)) + (1 : Int32))), .val (.int (own_I m_)), .val (.int (own_I ii))] [(.int (f (d + ii))), (.int (own_I (d + ii))), (.ref b)])
      obtain ⟨v422, _, ⟨T422, L422, k422, n422⟩, -, X422, ⟨Lc422, hQ422, l422, rfl, rfl⟩, st422⟩ := Jvm.LawKit.callS X421 hx (y := y_11) hown (mvT hZ (ow hw 263 rfl)) (mvT hZ (ow hw 264 rfl)) (mvT hZ (ow hw 232 rfl)) (mvT hZ (ow hw 265 rfl)) (by decide) (backOf (W := 0) (rm_putc l Z a0 hw [] b (f (d + ii)) kb 32 vb' (d + ii) h421 n0 Z421 f421_2 (by omega) (by omega) (by decide) (by omega) gb ST f421_0) hZ (ow hw 265 rfl) (ow hw 232 rfl) (by decide) (by decide)) (g := (mkF mt 32 #[.val (.ref a), .val (.int ((own_I ii) + (1 : Int32))), .val (.ref b), .val (.int ((own_I (d + ii)) + (1 : Int32))), .val (.int (own_I m_)), .val (.int (own_I ii))] [(.int (f (d + ii))), (.int (own_I (d + ii))), (.ref b)])) rfl (by rw [hml]; rfl) (argsL := [(.ref b), (.int (own_I (d + ii))), (.int (f (d + ii)))]) (rest := []) (lenOf pd_10 rfl) rfl (wz rfl) (hb hby d32_32) (fun _ _ => ⟨rfl, e421, (by decide : 0 + 0 ≤ _), (by decide : 0 + 0 ≤ _)⟩)
      replace X422 : Stand p l e _ s mt args below meth cd T422 L422 0 0 := X422
      obtain ⟨h422, e422⟩ : ∃ z, T422.heap = z := ⟨_, rfl⟩
      rw [e422] at hQ422
      obtain ⟨rfl, Nq422, K422, V422⟩ := hQ422
      have N422 := own_fr (L := L422) l422 N421 Nq422
      have f423_49 := f421_0.keep K422 (allS gb all0)
      have f423_50 := f421_1.keep K422 (ninS nab nin0)
      have Z424 : n0 ≤ h422.size := Nat.le_trans Z421 K422.1
      have K425 : Keep h0 h422 [b] := Keep.trans K421 K422 (allS (Or.inl (List.mem_of_getElem? (i := 0) rfl)) all0)
      refine Win.st ?_ st422
      show Win _ _ _ _ T422 (mkF mt 35 #[.val (.ref a), .val (.int ((own_I ii) + (1 : Int32))), .val (.ref b), .val (.int ((own_I (d + ii)) + (1 : Int32))), .val (.int (own_I m_)), .val (.int (own_I ii))] [])
      refine Win.st ?_ (fun tq kq => XS.iinc X422.here hx rfl (hb hby d32_35) rfl (l' := #[.val (.ref a), .val (.int ((own_I ii) + (1 : Int32))), .val (.ref b), .val (.int ((own_I (d + ii)) + (1 : Int32))), .val (.int (own_I m_)), .val (.int ((own_I ii) + (1 : Int32)))]) rfl kq)
      show Win _ _ _ _ T422 (mkF mt 38 #[.val (.ref a), .val (.int ((own_I ii) + (1 : Int32))), .val (.ref b), .val (.int ((own_I (d + ii)) + (1 : Int32))), .val (.int (own_I m_)), .val (.int ((own_I ii) + (1 : Int32)))] [])
      refine Win.st ?_ (fun tq kq => XS.goto X422.here hx rfl (pc0 := 38) (pc' := 10) rfl (hb hby d32_38) (by decide) (by decide) kq)
      show Win _ _ _ _ T422 (mkF mt 10 #[.val (.ref a), .val (.int ((own_I ii) + (1 : Int32))), .val (.ref b), .val (.int ((own_I (d + ii)) + (1 : Int32))), .val (.int (own_I m_)), .val (.int ((own_I ii) + (1 : Int32)))] [])
      rw [own_I_succ (d + ii), own_I_succ ii]
      exact ih (ii + 1) T422 h422 _ (((vb'.set (2 * (d + ii)) (.int (own_b0 (f (d + ii))))).set (2 * (d + ii) + 1) (.int (own_b1 (f (d + ii)))))) (by omega) X422 e422 N422 Z424 K425 (by rw [List.length_set, List.length_set]; exact hvl) (own_E1_push (n := d + ii) HE rfl (own_C_of (Hs ii (by omega)).1) (by omega)) f423_49 f423_50 V422
  exact lp m_ 0 T420 h0 _ (vb) (Nat.zero_add _) X420 eh420 N420 Z0 (Keep.refl h0 [b]) (hl) (HD) O VA VB
abbrev k33 : ByteArray := jdk_43_method_50_code
theorem d33_0 : decode k33 0 = .ok (.aload_n 0, 1) := by decide +kernel
theorem d33_1 : decode k33 1 = .ok (.iload_n 1, 1) := by decide +kernel
theorem d33_2 : decode k33 2 = .ok (.aload_n 2, 1) := by decide +kernel
theorem d33_3 : decode k33 3 = .ok (.iload_n 3, 1) := by decide +kernel
theorem d33_4 : decode k33 4 = .ok (.iload 4, 2) := by decide +kernel
theorem d33_6 : decode k33 6 = .ok (.invokestatic 240, 3) := by decide +kernel
theorem pd_23 : parseMethodDescriptor "([BI[BII)V" = some ⟨[(.array .byte), .int, (.array .byte), .int, .int], none⟩ := by decide +kernel
theorem d33_9 : decode k33 9 = .ok (.return_, 1) := by decide +kernel
abbrev y_33 : MethodName := ⟨"java/lang/StringLatin1", "inflate", "([BI[BII)V"⟩
abbrev r_infl : Room := { frames := 4, cells := 0, slots := 0, locals := 60 }
theorem ef_infl (mt : MethodId) (a : Addr) (b : Addr) (d : Nat) (m_ : Nat) : entryFrame mt #[(.ref a), (.int (0 : Int32)), (.ref b), (.int (own_I d)), (.int (own_I m_))] 5 = mkF mt 0 #[.val (.ref a), .val (.int (0 : Int32)), .val (.ref b), .val (.int (own_I d)), .val (.int (own_I m_))] [] := by first | (simp [entryFrame, mkF, argsToLocals, Value.category]; done) | rfl
def Q_infl (Z : State) (a : Addr) (b : Addr) (ka : ClassId) (wN : Nat) (va : List Value) (kb : ClassId) (vb : List Value) (d : Nat) (m_ : Nat) (f : Nat → Int32) (h0 : Heap) (n0 : Nat) (v : Option Value) (h : Heap) (L : List Loc) : Prop := v = none ∧ Fr n0 L ∧ Keep h0 h [b] ∧ ∃ vs : List Value, vs.length = 32 ∧ Arv Z h b kb .byte (32 : Int32) vs (.int (0 : Int32)) ∧ own_E1 f (d + m_) vs
theorem rm_infl (l : Launch) (Z : State) (a0 : Array Value) (hw : ∀ d ∈ tables_1, d.before a0 Z = true) (ws : List Jvm.Cond) (a : Addr) (b : Addr) (ka : ClassId) (wN : Nat) (va : List Value) (kb : ClassId) (vb : List Value) (d : Nat) (m_ : Nat) (f : Nat → Int32) (h0 : Heap) (n0 : Nat) (Z0 : n0 ≤ h0.size) (VA : Arv Z h0 a ka .byte (own_I wN) va (.int (0 : Int32))) (hw1 : m_ ≤ wN) (hw2 : wN ≤ 32) (VB : Arv Z h0 b kb .byte (32 : Int32) vb (.int (0 : Int32))) (hl : vb.length = 32) (hd : d + m_ ≤ 16) (Hs : ∀ i, i < m_ → own_B (f (d + i)) ∧ va.getD i (.int (0 : Int32)) = .int ((f (d + i)).toInt8.toInt32)) (HD : own_E1 f d vb) (nab : a ≠ b) (gb : n0 ≤ b) (ST : own_St Z) (O : Old Z n0 h0) :
    Met l y_33 k33 5 none ws r_infl #[(.ref a), (.int (0 : Int32)), (.ref b), (.int (own_I d)), (.int (own_I m_))] Z h0 (Q_infl Z a b ka wN va kb vb d m_ f h0 n0) := by
  refine MetFree.of_bodySF (plainFor_of_name pn_4) hisR ?_
  intro p e s mt args below meth cd s₁ Bd hml0 hP hK
  obtain ⟨hA, hZ, hh⟩ := hP
  have hx := Bd.exec
  have hby := Bd.bytes
  have hml : cd.maxLocals = 5 := hml0
  have hown : s.vm.findClass "java/lang/StringLatin1" = some mt.cls := findClass_of_methodNamed Bd.named
  have hlk : meth.locks = false := BodyLoose.notSynchronized Bd
  have hrt := Bd.returns
  have X0 : Stand p l e r_infl s mt args below meth cd s₁ [] 0 0 := Stand.of_body Bd
  have e0 : s₁.heap = h0 := by rw [← hh, Bd.state]; rfl
  have N0 := Fr.nil n0
  show Win p e below (Ends s (Q_infl Z a b ka wN va kb vb d m_ f h0 n0) r_infl.cells r_infl.slots) s₁ (entryFrame mt args 5)
  rw [hA, ef_infl]
  obtain ⟨cs, u, S0, hcs, S1, hu, S2, S3, S4⟩ := id ST
  refine w_aloadN X0 hx hby d33_0 rfl rfl ?_
  refine w_iloadN X0 hx hby d33_1 rfl ?_
  refine w_aloadN X0 hx hby d33_2 rfl rfl ?_
  refine w_iloadN X0 hx hby d33_3 rfl ?_
  refine w_iload X0 hx hby d33_4 rfl ?_
  show Win _ _ _ _ s₁ (mkF mt 6 #[.val (.ref a), .val (.int (0 : Int32)), .val (.ref b), .val (.int (own_I d)), .val (.int (own_I m_))] [(.int (own_I m_)), (.int (own_I d)), (.ref b), (.int (0 : Int32)), (.ref a)])
  obtain ⟨v426, _, ⟨T426, L426, k426, n426⟩, -, X426, ⟨Lc426, hQ426, l426, rfl, rfl⟩, st426⟩ := Jvm.LawKit.callS X0 hx (y := y_32) hown (mvT hZ (ow hw 282 rfl)) (mvT hZ (ow hw 283 rfl)) (mvT hZ (ow hw 232 rfl)) (mvT hZ (ow hw 284 rfl)) (by decide) (backOf (W := 0) (rm_infu l Z a0 hw [] a b ka wN va kb vb d m_ f h0 n0 Z0 VA hw1 hw2 VB hl hd Hs HD nab gb ST O) hZ (ow hw 284 rfl) (ow hw 232 rfl) (by decide) (by decide)) (g := (mkF mt 6 #[.val (.ref a), .val (.int (0 : Int32)), .val (.ref b), .val (.int (own_I d)), .val (.int (own_I m_))] [(.int (own_I m_)), (.int (own_I d)), (.ref b), (.int (0 : Int32)), (.ref a)])) rfl (by rw [hml]; rfl) (argsL := [(.ref a), (.int (0 : Int32)), (.ref b), (.int (own_I d)), (.int (own_I m_))]) (rest := []) (lenOf pd_23 rfl) rfl (wz rfl) (hb hby d33_6) (fun _ _ => ⟨rfl, e0, (by decide : 0 + 0 ≤ _), (by decide : 0 + 0 ≤ _)⟩)
  replace X426 : Stand p l e _ s mt args below meth cd T426 L426 0 0 := X426
  obtain ⟨h426, e426⟩ : ∃ z, T426.heap = z := ⟨_, rfl⟩
  rw [e426] at hQ426
  obtain ⟨rfl, Nq426, K426, hs6⟩ := hQ426
  have N426 := own_fr (L := L426) l426 N0 Nq426
  have K429 : Keep h0 h426 [b] := Keep.trans (Keep.refl h0 [b]) K426 (allS (Or.inl (List.mem_of_getElem? (i := 0) rfl)) all0)
  refine Win.st ?_ st426
  show Win _ _ _ _ T426 (mkF mt 9 #[.val (.ref a), .val (.int (0 : Int32)), .val (.ref b), .val (.int (own_I d)), .val (.int (own_I m_))] [])
  exact Win.retV X426 hx hlk e426 hrt (hb hby d33_9) (by decide) (by decide) ⟨rfl, N426, K429, hs6⟩
abbrev k34 : ByteArray := jdk_68_method_11_code
theorem d34_0 : decode k34 0 = .ok (.aload_n 0, 1) := by decide +kernel
theorem d34_1 : decode k34 1 = .ok (.invokevirtual 83, 3) := by decide +kernel
theorem d34_4 : decode k34 4 = .ok (.ifCond .ne 4, 3) := by decide +kernel
theorem d34_8 : decode k34 8 = .ok (.aload_n 0, 1) := by decide +kernel
theorem d34_9 : decode k34 9 = .ok (.getfield 15, 3) := by decide +kernel
theorem d34_12 : decode k34 12 = .ok (.arraylength, 1) := by decide +kernel
theorem d34_13 : decode k34 13 = .ok (.invokestatic 26, 3) := by decide +kernel
theorem d34_16 : decode k34 16 = .ok (.astore_n 1, 1) := by decide +kernel
theorem d34_17 : decode k34 17 = .ok (.aload_n 0, 1) := by decide +kernel
theorem d34_18 : decode k34 18 = .ok (.getfield 15, 3) := by decide +kernel
theorem d34_21 : decode k34 21 = .ok (.iconst 0, 1) := by decide +kernel
theorem d34_22 : decode k34 22 = .ok (.aload_n 1, 1) := by decide +kernel
theorem d34_23 : decode k34 23 = .ok (.iconst 0, 1) := by decide +kernel
theorem d34_24 : decode k34 24 = .ok (.aload_n 0, 1) := by decide +kernel
theorem d34_25 : decode k34 25 = .ok (.getfield 79, 3) := by decide +kernel
theorem d34_28 : decode k34 28 = .ok (.invokestatic 125, 3) := by decide +kernel
theorem d34_31 : decode k34 31 = .ok (.aload_n 0, 1) := by decide +kernel
theorem d34_32 : decode k34 32 = .ok (.aload_n 1, 1) := by decide +kernel
theorem d34_33 : decode k34 33 = .ok (.putfield 15, 3) := by decide +kernel
theorem d34_36 : decode k34 36 = .ok (.aload_n 0, 1) := by decide +kernel
theorem d34_37 : decode k34 37 = .ok (.iconst 1, 1) := by decide +kernel
theorem d34_38 : decode k34 38 = .ok (.putfield 22, 3) := by decide +kernel
theorem d34_41 : decode k34 41 = .ok (.return_, 1) := by decide +kernel
abbrev y_34 : MethodName := ⟨"java/lang/AbstractStringBuilder", "inflate", "()V"⟩
abbrev r_binf0 : Room := { frames := 5, cells := 1, slots := 32, locals := 76 }
theorem ef_binf0 (mt : MethodId) (a : Addr) : entryFrame mt #[(.ref a)] 2 = mkF mt 0 #[.val (.ref a), .unset] [] := by first | (simp [entryFrame, mkF, argsToLocals, Value.category]; done) | rfl
def Q_binf0 (Z : State) (a : Addr) (bf : Addr) (kv : ClassId) (vv_ : List Value) (nb : Nat) (fb : Nat → Int32) (h0 : Heap) (n0 : Nat) (v : Option Value) (h : Heap) (L : List Loc) : Prop := v = none ∧ Fr n0 L ∧ Keep h0 h [a] ∧ ∃ (t : Addr) (k : ClassId) (vs : List Value), h0.size ≤ t ∧ n0 ≤ t ∧ Fld Z h a "java/lang/AbstractStringBuilder" "value" "[B" (.ref t) ∧ Fld Z h a "java/lang/AbstractStringBuilder" "coder" "B" (.int (1 : Int32)) ∧ Fld Z h a "java/lang/AbstractStringBuilder" "count" "I" (.int (own_I nb)) ∧ Fld Z h a "java/lang/AbstractStringBuilder" "maybeLatin1" "Z" (.int (0 : Int32)) ∧ Arv Z h t k .byte (32 : Int32) vs (.int (0 : Int32)) ∧ Exa Z h t "[B" ∧ vs.length = 32 ∧ own_E1 fb nb vs
theorem rm_binf0 (l : Launch) (Z : State) (a0 : Array Value) (hw : ∀ d ∈ tables_1, d.before a0 Z = true) (ws : List Jvm.Cond) (a : Addr) (bf : Addr) (kv : ClassId) (vv_ : List Value) (nb : Nat) (fb : Nat → Int32) (h0 : Heap) (n0 : Nat) (Z0 : n0 ≤ h0.size) (BE : Exa Z h0 a "java/lang/StringBuilder") (Bv : Fld Z h0 a "java/lang/AbstractStringBuilder" "value" "[B" (.ref bf)) (Bc : Fld Z h0 a "java/lang/AbstractStringBuilder" "coder" "B" (.int (0 : Int32))) (Bn : Fld Z h0 a "java/lang/AbstractStringBuilder" "count" "I" (.int (own_I nb))) (Bm : Fld Z h0 a "java/lang/AbstractStringBuilder" "maybeLatin1" "Z" (.int (0 : Int32))) (BV : Arv Z h0 bf kv .byte (16 : Int32) vv_ (.int (0 : Int32))) (BX : Exa Z h0 bf "[B") (ga : n0 ≤ a) (gv : n0 ≤ bf) (hnb : nb ≤ 16) (HE : own_E0 fb nb vv_) (ST : own_St Z) (O : Old Z n0 h0) :
    Met l y_34 k34 2 none ws r_binf0 #[(.ref a)] Z h0 (Q_binf0 Z a bf kv vv_ nb fb h0 n0) := by
  refine MetFree.of_bodySF (plainFor_of_name pn_1) hisR ?_
  intro p e s mt args below meth cd s₁ Bd hml0 hP hK
  obtain ⟨hA, hZ, hh⟩ := hP
  have hx := Bd.exec
  have hby := Bd.bytes
  have hml : cd.maxLocals = 2 := hml0
  have hown : s.vm.findClass "java/lang/AbstractStringBuilder" = some mt.cls := findClass_of_methodNamed Bd.named
  have hlk : meth.locks = false := BodyLoose.notSynchronized Bd
  have hrt := Bd.returns
  have X0 : Stand p l e r_binf0 s mt args below meth cd s₁ [] 0 0 := Stand.of_body Bd
  have e0 : s₁.heap = h0 := by rw [← hh, Bd.state]; rfl
  have N0 := Fr.nil n0
  show Win p e below (Ends s (Q_binf0 Z a bf kv vv_ nb fb h0 n0) r_binf0.cells r_binf0.slots) s₁ (entryFrame mt args 2)
  rw [hA, ef_binf0]
  obtain ⟨cs, u, S0, hcs, S1, hu, S2, S3, S4⟩ := id ST
  have nva : a ≠ bf := Exa.neArv BE BV (ow hw 34 rfl)
  refine w_aloadN X0 hx hby d34_0 rfl rfl ?_
  show Win _ _ _ _ s₁ (mkF mt 1 #[.val (.ref a), .unset] [(.ref a)])
  obtain ⟨cq430, kq430, q430a, q430b, q430c⟩ := isOf hZ e0 BE
  obtain ⟨v430, _, ⟨T430, L430, k430, n430⟩, -, X430, ⟨Lc430, hQ430, l430, rfl, rfl⟩, st430⟩ := X0.virtualBack hx (y := y_2) (z := y_2) hown (mvT hZ (ow hw 277 rfl)) (mvT hZ (ow hw 127 rfl)) (notFace_of_selects (args := #[]) (mvT hZ (ow hw 129 rfl))) (mvT hZ (ow hw 129 rfl)) (mvT hZ (ow hw 128 rfl)) (by decide) (backOf (W := 0) (rm_bisl l Z a0 hw [] a (0 : Int32) h0 n0 Z0 Bc ST O) hZ (ow hw 130 rfl) (ow hw 43 rfl) (by decide) (by decide)) q430a q430c (g := (mkF mt 1 #[.val (.ref a), .unset] [(.ref a)])) rfl (by rw [hml]; rfl) (Steps.refl _) (argsL := []) (rest := []) (lenOf pd_8 rfl) rfl (wz rfl) (hb hby d34_1) (fun _ _ => ⟨rfl, e0, (by decide : 0 + 0 ≤ _), (by decide : 0 + 0 ≤ _)⟩)
  replace X430 : Stand p l e _ s mt args below meth cd T430 L430 0 0 := X430
  obtain ⟨rfl, Nq430, eh430⟩ := hQ430
  have N430 := own_fr (L := L430) l430 N0 Nq430
  rw [show own_isL (0 : Int32) = (1 : Int32) from by decide] at st430
  refine Win.tr ?_ st430
  show Win _ _ _ _ T430 (mkF mt 4 #[.val (.ref a), .unset] [(.int (1 : Int32))])
  refine Win.st ?_ (fun tq kq => XS.ifYes X430.here hx rfl (pc0 := 4) (pc' := 8) rfl (hb hby d34_4) rfl ((if0 _ _).trans (feq (by decide : ¬ ((1 : Int32) = (0 : Int32)))).2) (by decide) (by decide) kq)
  refine w_aloadN X430 hx hby d34_8 rfl rfl ?_
  obtain ⟨T431, X431, e431, st431⟩ := getF X430 hx hZ hown (host := "") (Or.inl (ow hw 47 rfl)) Via.refl eh430 Bv (g := (mkF mt 9 #[.val (.ref a), .unset] [(.ref a)])) rfl rfl (hb hby d34_9)
  refine Win.st ?_ st431
  show Win _ _ _ _ T431 (mkF mt 12 #[.val (.ref a), .unset] [(.ref bf)])
  refine Win.st ?_ (own_alen (g := (mkF mt 12 #[.val (.ref a), .unset] [(.ref bf)])) X431 hx hZ e431 BV rfl rfl (hb hby d34_12))
  show Win _ _ _ _ T431 (mkF mt 13 #[.val (.ref a), .unset] [(.int (16 : Int32))])
  obtain ⟨v432, _, ⟨T432, L432, k432, n432⟩, -, X432, ⟨Lc432, hQ432, l432, rfl, rfl⟩, st432⟩ := Jvm.LawKit.callS X431 hx (y := y_17) hown (mvT hZ (ow hw 278 rfl)) (mvT hZ (ow hw 257 rfl)) (mvT hZ (ow hw 232 rfl)) (mvT hZ (ow hw 258 rfl)) (by decide) (backOf (W := 0) (rm_nbf_16 l Z a0 hw []  h0 n0 Z0 ) hZ (ow hw 258 rfl) (ow hw 232 rfl) (by decide) (by decide)) (g := (mkF mt 13 #[.val (.ref a), .unset] [(.int (16 : Int32))])) rfl (by rw [hml]; rfl) (argsL := [(.int (16 : Int32))]) (rest := []) (lenOf pd_14 rfl) rfl (wz rfl) (hb hby d34_13) (fun _ _ => ⟨rfl, e431, (by decide : 0 + 1 ≤ _), (by decide : 0 + 32 ≤ _)⟩)
  replace X432 : Stand p l e _ s mt args below meth cd T432 L432 1 32 := X432
  obtain ⟨h432, e432⟩ : ∃ z, T432.heap = z := ⟨_, rfl⟩
  rw [e432] at hQ432
  obtain ⟨tt, rfl, Nq432, K432, gt432, zt432, kt, V432, X432e⟩ := hQ432
  have N432 := own_fr (L := L432) l432 N430 Nq432
  have f433_25 := O.keep K432 all0
  have f433_26 := BE.keep K432
  have f433_27 := Bv.keep K432 nin0
  have f433_28 := Bc.keep K432 nin0
  have f433_29 := Bn.keep K432 nin0
  have f433_30 := Bm.keep K432 nin0
  have f433_31 := BV.keep K432 nin0
  have Z434 : n0 ≤ h432.size := Nat.le_trans Z0 K432.1
  have K435 : Keep h0 h432 [a] := Keep.trans (Keep.refl h0 [a]) K432 all0
  have ne436 : a ≠ tt := Nat.ne_of_lt (Nat.lt_of_lt_of_le BE.lt zt432)
  have ne437 : bf ≠ tt := Nat.ne_of_lt (Nat.lt_of_lt_of_le BV.lt zt432)
  refine Win.st ?_ st432
  show Win _ _ _ _ T432 (mkF mt 16 #[.val (.ref a), .unset] [(.ref tt)])
  refine Win.st ?_ (fun tq kq => XS.astoreN X432.here hx rfl (hb hby d34_16) rfl rfl (l' := #[.val (.ref a), .val (.ref tt)]) rfl kq)
  refine w_aloadN X432 hx hby d34_17 rfl rfl ?_
  obtain ⟨T438, X438, e438, st438⟩ := getF X432 hx hZ hown (host := "") (Or.inl (ow hw 47 rfl)) Via.refl e432 f433_27 (g := (mkF mt 18 #[.val (.ref a), .val (.ref tt)] [(.ref a)])) rfl rfl (hb hby d34_18)
  refine Win.st ?_ st438
  refine w_iconst X438 hx hby d34_21 ?_
  refine w_aloadN X438 hx hby d34_22 rfl rfl ?_
  refine w_iconst X438 hx hby d34_23 ?_
  refine w_aloadN X438 hx hby d34_24 rfl rfl ?_
  obtain ⟨T439, X439, e439, st439⟩ := getF X438 hx hZ hown (host := "") (Or.inl (ow hw 72 rfl)) Via.refl e438 f433_29 (g := (mkF mt 25 #[.val (.ref a), .val (.ref tt)] [(.ref a), (.int (0 : Int32)), (.ref tt), (.int (0 : Int32)), (.ref bf)])) rfl rfl (hb hby d34_25)
  refine Win.st ?_ st439
  show Win _ _ _ _ T439 (mkF mt 28 #[.val (.ref a), .val (.ref tt)] [(.int (own_I nb)), (.int (0 : Int32)), (.ref tt), (.int (0 : Int32)), (.ref bf)])
  have hE0 := Nat.zero_add nb
  obtain ⟨v440, _, ⟨T440, L440, k440, n440⟩, -, X440, ⟨Lc440, hQ440, l440, rfl, rfl⟩, st440⟩ := Jvm.LawKit.callS X439 hx (y := y_33) hown (mvT hZ (ow hw 279 rfl)) (mvT hZ (ow hw 280 rfl)) (mvT hZ (ow hw 220 rfl)) (mvT hZ (ow hw 281 rfl)) (by decide) (backOf (W := 0) (rm_infl l Z a0 hw [] bf tt kv 16 vv_ kt [(.int (0 : Int32)), (.int (0 : Int32)), (.int (0 : Int32)), (.int (0 : Int32)), (.int (0 : Int32)), (.int (0 : Int32)), (.int (0 : Int32)), (.int (0 : Int32)), (.int (0 : Int32)), (.int (0 : Int32)), (.int (0 : Int32)), (.int (0 : Int32)), (.int (0 : Int32)), (.int (0 : Int32)), (.int (0 : Int32)), (.int (0 : Int32)), (.int (0 : Int32)), (.int (0 : Int32)), (.int (0 : Int32)), (.int (0 : Int32)), (.int (0 : Int32)), (.int (0 : Int32)), (.int (0 : Int32)), (.int (0 : Int32)), (.int (0 : Int32)), (.int (0 : Int32)), (.int (0 : Int32)), (.int (0 : Int32)), (.int (0 : Int32)), (.int (0 : Int32)), (.int (0 : Int32)), (.int (0 : Int32))] 0 nb fb h432 n0 Z434 f433_31 (by omega) (by decide) V432 rfl (by omega) (fun i hi => (Nat.zero_add i).symm ▸ HE i hi) (fun i hi => absurd hi (Nat.not_lt_zero i)) ne437 gt432 ST f433_25) hZ (ow hw 281 rfl) (ow hw 220 rfl) (by decide) (by decide)) (g := (mkF mt 28 #[.val (.ref a), .val (.ref tt)] [(.int (own_I nb)), (.int (0 : Int32)), (.ref tt), (.int (0 : Int32)), (.ref bf)])) rfl (by rw [hml]; rfl) (argsL := [(.ref bf), (.int (0 : Int32)), (.ref tt), (.int (0 : Int32)), (.int (own_I nb))]) (rest := []) (lenOf pd_23 rfl) rfl (wz rfl) (hb hby d34_28) (fun _ _ => ⟨rfl, e439, (by decide : 1 + 0 ≤ _), (by decide : 32 + 0 ≤ _)⟩)
  replace X440 : Stand p l e _ s mt args below meth cd T440 L440 1 32 := X440
  obtain ⟨h440, e440⟩ : ∃ z, T440.heap = z := ⟨_, rfl⟩
  rw [e440] at hQ440
  obtain ⟨rfl, Nq440, K440, vt, hl440, V440, HE440⟩ := hQ440
  have N440 := own_fr (L := L440) l440 N432 Nq440
  have f441_58 := f433_26.keep K440
  have f441_59 := f433_27.keep K440 (ninS ne436 nin0)
  have f441_60 := f433_28.keep K440 (ninS ne436 nin0)
  have f441_61 := f433_29.keep K440 (ninS ne436 nin0)
  have f441_62 := f433_30.keep K440 (ninS ne436 nin0)
  have f441_65 := X432e.keep K440
  have K443 : Keep h0 h440 [a] := Keep.trans K435 K440 (allS (Or.inr zt432) all0)
  refine Win.st ?_ st440
  refine w_aloadN X440 hx hby d34_31 rfl rfl ?_
  refine w_aloadN X440 hx hby d34_32 rfl rfl ?_
  show Win _ _ _ _ T440 (mkF mt 33 #[.val (.ref a), .val (.ref tt)] [(.ref tt), (.ref a)])
  obtain ⟨T444, h444, X444, e444, W444, st444⟩ := putF X440 hx hZ hown (host := "") (Or.inl (ow hw 47 rfl)) Via.refl e440 f441_59 f441_58 (Or.inl (ow hw 48 rfl)) (ow hw 34 rfl) (ty := (.array .byte)) (by decide) rfl rfl (g := (mkF mt 33 #[.val (.ref a), .val (.ref tt)] [(.ref tt), (.ref a)])) rfl rfl (hb hby d34_33)
  obtain ⟨L444, X444, N444⟩ := own_hide X444 N440 ga
  have kp444 := Keep.of_wr W444
  have fw444 := f441_59.same W444
  have f444_76 := f441_60.other W444 (Or.inr (slot_ne (Or.inl (ow hw 50 rfl)) (Or.inl (ow hw 48 rfl)) (by decide) (t := .byte) (t' := (.array .byte)) (by decide) (by decide)))
  have f444_77 := f441_61.other W444 (Or.inr (slot_ne (Or.inl (ow hw 73 rfl)) (Or.inl (ow hw 48 rfl)) (by decide) (t := .int) (t' := (.array .byte)) (by decide) (by decide)))
  have f444_78 := f441_62.other W444 (Or.inr (slot_ne (Or.inl (ow hw 299 rfl)) (Or.inl (ow hw 48 rfl)) (by decide) (t := .boolean) (t' := (.array .byte)) (by decide) (by decide)))
  have f445_80 := f441_58.keep kp444
  have f445_83 := f441_65.keep kp444
  have f445_84 := V440.keep kp444 (ninS (Ne.symm ne436) nin0)
  have K447 : Keep h0 h444 [a] := Keep.trans K443 kp444 (allS (Or.inl (List.mem_of_getElem? (i := 0) rfl)) all0)
  refine Win.st ?_ st444
  refine w_aloadN X444 hx hby d34_36 rfl rfl ?_
  refine w_iconst X444 hx hby d34_37 ?_
  show Win _ _ _ _ T444 (mkF mt 38 #[.val (.ref a), .val (.ref tt)] [(.int (1 : Int32)), (.ref a)])
  obtain ⟨T448, h448, X448, e448, W448, st448⟩ := putFN X444 hx hZ hown (ow hw 49 rfl) Via.refl e444 f444_76 f445_80 (Or.inl (ow hw 50 rfl)) (ow hw 34 rfl) (ty := .byte) (v' := (.int (1 : Int32))) (by decide) rfl (by decide) (g := (mkF mt 38 #[.val (.ref a), .val (.ref tt)] [(.int (1 : Int32)), (.ref a)])) rfl rfl (hb hby d34_38)
  obtain ⟨L448, X448, N448⟩ := own_hide X448 N444 ga
  have kp448 := Keep.of_wr W448
  have f448_94 := fw444.other W448 (Or.inr (slot_ne (Or.inl (ow hw 48 rfl)) (Or.inl (ow hw 50 rfl)) (by decide) (t := (.array .byte)) (t' := .byte) (by decide) (by decide)))
  have fw448 := f444_76.same W448
  have f448_96 := f444_77.other W448 (Or.inr (slot_ne (Or.inl (ow hw 73 rfl)) (Or.inl (ow hw 50 rfl)) (by decide) (t := .int) (t' := .byte) (by decide) (by decide)))
  have f448_97 := f444_78.other W448 (Or.inr (slot_ne (Or.inl (ow hw 299 rfl)) (Or.inl (ow hw 50 rfl)) (by decide) (t := .boolean) (t' := .byte) (by decide) (by decide)))
  have f449_102 := f445_83.keep kp448
  have f449_103 := f445_84.keep kp448 (ninS (Ne.symm ne436) nin0)
  have K451 : Keep h0 h448 [a] := Keep.trans K447 kp448 (allS (Or.inl (List.mem_of_getElem? (i := 0) rfl)) all0)
  refine Win.st ?_ st448
  show Win _ _ _ _ T448 (mkF mt 41 #[.val (.ref a), .val (.ref tt)] [])
  exact Win.retV X448 hx hlk e448 hrt (hb hby d34_41) (by decide) (by decide) ⟨rfl, N448, K451, tt, kt, vt, zt432, gt432, f448_94, fw448, f448_96, f448_97, f449_103, f449_102, hl440, (Nat.zero_add nb) ▸ HE440⟩
theorem d34_7 : decode k34 7 = .ok (.return_, 1) := by decide +kernel
abbrev r_binf1 : Room := { frames := 1, cells := 0, slots := 0, locals := 12 }
theorem ef_binf1 (mt : MethodId) (a : Addr) : entryFrame mt #[(.ref a)] 2 = mkF mt 0 #[.val (.ref a), .unset] [] := by first | (simp [entryFrame, mkF, argsToLocals, Value.category]; done) | rfl
def Q_binf1 (Z : State) (a : Addr) (h0 : Heap) (n0 : Nat) (v : Option Value) (h : Heap) (L : List Loc) : Prop := v = none ∧ Fr n0 L ∧ h = h0
theorem rm_binf1 (l : Launch) (Z : State) (a0 : Array Value) (hw : ∀ d ∈ tables_1, d.before a0 Z = true) (ws : List Jvm.Cond) (a : Addr) (h0 : Heap) (n0 : Nat) (Z0 : n0 ≤ h0.size) (BE : Exa Z h0 a "java/lang/StringBuilder") (Bc : Fld Z h0 a "java/lang/AbstractStringBuilder" "coder" "B" (.int (1 : Int32))) (ST : own_St Z) (O : Old Z n0 h0) :
    Met l y_34 k34 2 none ws r_binf1 #[(.ref a)] Z h0 (Q_binf1 Z a h0 n0) := by
  refine MetFree.of_bodySF (plainFor_of_name pn_1) hisR ?_
  intro p e s mt args below meth cd s₁ Bd hml0 hP hK
  obtain ⟨hA, hZ, hh⟩ := hP
  have hx := Bd.exec
  have hby := Bd.bytes
  have hml : cd.maxLocals = 2 := hml0
  have hown : s.vm.findClass "java/lang/AbstractStringBuilder" = some mt.cls := findClass_of_methodNamed Bd.named
  have hlk : meth.locks = false := BodyLoose.notSynchronized Bd
  have hrt := Bd.returns
  have X0 : Stand p l e r_binf1 s mt args below meth cd s₁ [] 0 0 := Stand.of_body Bd
  have e0 : s₁.heap = h0 := by rw [← hh, Bd.state]; rfl
  have N0 := Fr.nil n0
  show Win p e below (Ends s (Q_binf1 Z a h0 n0) r_binf1.cells r_binf1.slots) s₁ (entryFrame mt args 2)
  rw [hA, ef_binf1]
  obtain ⟨cs, u, S0, hcs, S1, hu, S2, S3, S4⟩ := id ST
  refine w_aloadN X0 hx hby d34_0 rfl rfl ?_
  show Win _ _ _ _ s₁ (mkF mt 1 #[.val (.ref a), .unset] [(.ref a)])
  obtain ⟨cq452, kq452, q452a, q452b, q452c⟩ := isOf hZ e0 BE
  obtain ⟨v452, _, ⟨T452, L452, k452, n452⟩, -, X452, ⟨Lc452, hQ452, l452, rfl, rfl⟩, st452⟩ := X0.virtualBack hx (y := y_2) (z := y_2) hown (mvT hZ (ow hw 277 rfl)) (mvT hZ (ow hw 127 rfl)) (notFace_of_selects (args := #[]) (mvT hZ (ow hw 129 rfl))) (mvT hZ (ow hw 129 rfl)) (mvT hZ (ow hw 128 rfl)) (by decide) (backOf (W := 0) (rm_bisl l Z a0 hw [] a (1 : Int32) h0 n0 Z0 Bc ST O) hZ (ow hw 130 rfl) (ow hw 43 rfl) (by decide) (by decide)) q452a q452c (g := (mkF mt 1 #[.val (.ref a), .unset] [(.ref a)])) rfl (by rw [hml]; rfl) (Steps.refl _) (argsL := []) (rest := []) (lenOf pd_8 rfl) rfl (wz rfl) (hb hby d34_1) (fun _ _ => ⟨rfl, e0, (by decide : 0 + 0 ≤ _), (by decide : 0 + 0 ≤ _)⟩)
  replace X452 : Stand p l e _ s mt args below meth cd T452 L452 0 0 := X452
  obtain ⟨rfl, Nq452, eh452⟩ := hQ452
  have N452 := own_fr (L := L452) l452 N0 Nq452
  rw [show own_isL (1 : Int32) = (0 : Int32) from by decide] at st452
  refine Win.tr ?_ st452
  show Win _ _ _ _ T452 (mkF mt 4 #[.val (.ref a), .unset] [(.int (0 : Int32))])
  refine Win.st ?_ (fun tq kq => XS.ifNo X452.here hx rfl (hb hby d34_4) rfl ((if0 _ _).trans (teq (rfl : (0 : Int32) = (0 : Int32))).2) kq)
  show Win _ _ _ _ T452 (mkF mt 7 #[.val (.ref a), .unset] [])
  exact Win.retV X452 hx hlk eh452 hrt (hb hby d34_7) (by decide) (by decide) ⟨rfl, N452, rfl⟩
abbrev k35 : ByteArray := jdk_68_method_71_code
theorem d35_0 : decode k35 0 = .ok (.getstatic 18, 3) := by decide +kernel
theorem d35_3 : decode k35 3 = .ok (.ifCond .eq 18, 3) := by decide +kernel
theorem d35_6 : decode k35 6 = .ok (.aload_n 0, 1) := by decide +kernel
theorem d35_7 : decode k35 7 = .ok (.getfield 22, 3) := by decide +kernel
theorem d35_10 : decode k35 10 = .ok (.aload_n 1, 1) := by decide +kernel
theorem d35_11 : decode k35 11 = .ok (.invokevirtual 40, 3) := by decide +kernel
theorem d35_14 : decode k35 14 = .ok (.if_icmp .eq 7, 3) := by decide +kernel
theorem d35_21 : decode k35 21 = .ok (.return_, 1) := by decide +kernel
abbrev y_35 : MethodName := ⟨"java/lang/AbstractStringBuilder", "inflateIfNeededFor", "(Ljava/lang/String;)V"⟩
abbrev r_iin_00 : Room := { frames := 1, cells := 0, slots := 0, locals := 13 }
theorem ef_iin_00 (mt : MethodId) (a : Addr) (s_ : Addr) : entryFrame mt #[(.ref a), (.ref s_)] 2 = mkF mt 0 #[.val (.ref a), .val (.ref s_)] [] := by first | (simp [entryFrame, mkF, argsToLocals, Value.category]; done) | rfl
def Q_iin_00 (Z : State) (a : Addr) (s_ : Addr) (h0 : Heap) (n0 : Nat) (v : Option Value) (h : Heap) (L : List Loc) : Prop := v = none ∧ Fr n0 L ∧ h = h0
theorem rm_iin_00 (l : Launch) (Z : State) (a0 : Array Value) (hw : ∀ d ∈ tables_1, d.before a0 Z = true) (ws : List Jvm.Cond) (a : Addr) (s_ : Addr) (h0 : Heap) (n0 : Nat) (Z0 : n0 ≤ h0.size) (BE : Exa Z h0 a "java/lang/StringBuilder") (Bc : Fld Z h0 a "java/lang/AbstractStringBuilder" "coder" "B" (.int (0 : Int32))) (Es : Exa Z h0 s_ "java/lang/String") (Fcs : Fld Z h0 s_ "java/lang/String" "coder" "B" (.int (0 : Int32))) (ST : own_St Z) (O : Old Z n0 h0) :
    Met l y_35 k35 2 none ws r_iin_00 #[(.ref a), (.ref s_)] Z h0 (Q_iin_00 Z a s_ h0 n0) := by
  refine MetFree.of_bodySF (plainFor_of_name pn_1) hisR ?_
  intro p e s mt args below meth cd s₁ Bd hml0 hP hK
  obtain ⟨hA, hZ, hh⟩ := hP
  have hx := Bd.exec
  have hby := Bd.bytes
  have hml : cd.maxLocals = 2 := hml0
  have hown : s.vm.findClass "java/lang/AbstractStringBuilder" = some mt.cls := findClass_of_methodNamed Bd.named
  have hlk : meth.locks = false := BodyLoose.notSynchronized Bd
  have hrt := Bd.returns
  have X0 : Stand p l e r_iin_00 s mt args below meth cd s₁ [] 0 0 := Stand.of_body Bd
  have e0 : s₁.heap = h0 := by rw [← hh, Bd.state]; rfl
  have N0 := Fr.nil n0
  show Win p e below (Ends s (Q_iin_00 Z a s_ h0 n0) r_iin_00.cells r_iin_00.slots) s₁ (entryFrame mt args 2)
  rw [hA, ef_iin_00]
  obtain ⟨cs, u, S0, hcs, S1, hu, S2, S3, S4⟩ := id ST
  obtain ⟨T453, X453, e453, st453⟩ := getS2 X0 hx hZ hown (host := "") (Or.inl (ow hw 46 rfl)) Via.refl e0 (S0.ext O.2) (g := (mkF mt 0 #[.val (.ref a), .val (.ref s_)] [])) rfl (hb hby d35_0)
  refine Win.st ?_ st453
  show Win _ _ _ _ T453 (mkF mt 3 #[.val (.ref a), .val (.ref s_)] [(.int cs)])
  refine Win.st ?_ (fun tq kq => XS.ifNo X453.here hx rfl (hb hby d35_3) rfl ((if0 _ _).trans (feq hcs).1) kq)
  refine w_aloadN X453 hx hby d35_6 rfl rfl ?_
  obtain ⟨T454, X454, e454, st454⟩ := getF X453 hx hZ hown (host := "") (Or.inl (ow hw 49 rfl)) Via.refl e453 Bc (g := (mkF mt 7 #[.val (.ref a), .val (.ref s_)] [(.ref a)])) rfl rfl (hb hby d35_7)
  refine Win.st ?_ st454
  refine w_aloadN X454 hx hby d35_10 rfl rfl ?_
  show Win _ _ _ _ T454 (mkF mt 11 #[.val (.ref a), .val (.ref s_)] [(.ref s_), (.int (0 : Int32))])
  obtain ⟨cq455, kq455, q455a, q455b, q455c⟩ := isOf hZ e454 Es
  obtain ⟨v455, _, ⟨T455, L455, k455, n455⟩, -, X455, ⟨Lc455, hQ455, l455, rfl, rfl⟩, st455⟩ := X454.virtualBack hx (y := y_0) (z := y_0) hown (mvT hZ (ow hw 89 rfl)) (mvT hZ (ow hw 67 rfl)) (notFace_of_selects (args := #[]) (mvT hZ (ow hw 69 rfl))) (mvT hZ (ow hw 69 rfl)) (mvT hZ (ow hw 68 rfl)) (by decide) (backOf (W := 1) (rm_coder l Z a0 hw [] s_ (0 : Int32) h0 n0 Z0 Fcs (by decide) ST O) hZ (ow hw 70 rfl) (ow hw 6 rfl) (by decide) (by decide)) q455a q455c (g := (mkF mt 11 #[.val (.ref a), .val (.ref s_)] [(.ref s_), (.int (0 : Int32))])) rfl (by rw [hml]; rfl) (Steps.refl _) (argsL := []) (rest := [(.int (0 : Int32))]) (lenOf pd_0 rfl) rfl (wz rfl) (hb hby d35_11) (fun _ _ => ⟨rfl, e454, (by decide : 0 + 0 ≤ _), (by decide : 0 + 0 ≤ _)⟩)
  replace X455 : Stand p l e _ s mt args below meth cd T455 L455 0 0 := X455
  obtain ⟨rfl, Nq455, eh455⟩ := hQ455
  have N455 := own_fr (L := L455) l455 N0 Nq455
  refine Win.tr ?_ st455
  show Win _ _ _ _ T455 (mkF mt 14 #[.val (.ref a), .val (.ref s_)] [(.int (0 : Int32)), (.int (0 : Int32))])
  refine Win.st ?_ (fun tq kq => XS.icmpYes X455.here hx rfl (pc0 := 14) (pc' := 21) rfl (hb hby d35_14) rfl (teq (rfl : (0 : Int32) = (0 : Int32))).1 (by decide) (by decide) kq)
  show Win _ _ _ _ T455 (mkF mt 21 #[.val (.ref a), .val (.ref s_)] [])
  exact Win.retV X455 hx hlk eh455 hrt (hb hby d35_21) (by decide) (by decide) ⟨rfl, N455, rfl⟩
abbrev r_iin_11 : Room := { frames := 1, cells := 0, slots := 0, locals := 13 }
theorem ef_iin_11 (mt : MethodId) (a : Addr) (s_ : Addr) : entryFrame mt #[(.ref a), (.ref s_)] 2 = mkF mt 0 #[.val (.ref a), .val (.ref s_)] [] := by first | (simp [entryFrame, mkF, argsToLocals, Value.category]; done) | rfl
def Q_iin_11 (Z : State) (a : Addr) (s_ : Addr) (h0 : Heap) (n0 : Nat) (v : Option Value) (h : Heap) (L : List Loc) : Prop := v = none ∧ Fr n0 L ∧ h = h0
theorem rm_iin_11 (l : Launch) (Z : State) (a0 : Array Value) (hw : ∀ d ∈ tables_1, d.before a0 Z = true) (ws : List Jvm.Cond) (a : Addr) (s_ : Addr) (h0 : Heap) (n0 : Nat) (Z0 : n0 ≤ h0.size) (BE : Exa Z h0 a "java/lang/StringBuilder") (Bc : Fld Z h0 a "java/lang/AbstractStringBuilder" "coder" "B" (.int (1 : Int32))) (Es : Exa Z h0 s_ "java/lang/String") (Fcs : Fld Z h0 s_ "java/lang/String" "coder" "B" (.int (1 : Int32))) (ST : own_St Z) (O : Old Z n0 h0) :
    Met l y_35 k35 2 none ws r_iin_11 #[(.ref a), (.ref s_)] Z h0 (Q_iin_11 Z a s_ h0 n0) := by
  refine MetFree.of_bodySF (plainFor_of_name pn_1) hisR ?_
  intro p e s mt args below meth cd s₁ Bd hml0 hP hK
  obtain ⟨hA, hZ, hh⟩ := hP
  have hx := Bd.exec
  have hby := Bd.bytes
  have hml : cd.maxLocals = 2 := hml0
  have hown : s.vm.findClass "java/lang/AbstractStringBuilder" = some mt.cls := findClass_of_methodNamed Bd.named
  have hlk : meth.locks = false := BodyLoose.notSynchronized Bd
  have hrt := Bd.returns
  have X0 : Stand p l e r_iin_11 s mt args below meth cd s₁ [] 0 0 := Stand.of_body Bd
  have e0 : s₁.heap = h0 := by rw [← hh, Bd.state]; rfl
  have N0 := Fr.nil n0
  show Win p e below (Ends s (Q_iin_11 Z a s_ h0 n0) r_iin_11.cells r_iin_11.slots) s₁ (entryFrame mt args 2)
  rw [hA, ef_iin_11]
  obtain ⟨cs, u, S0, hcs, S1, hu, S2, S3, S4⟩ := id ST
  obtain ⟨T456, X456, e456, st456⟩ := getS2 X0 hx hZ hown (host := "") (Or.inl (ow hw 46 rfl)) Via.refl e0 (S0.ext O.2) (g := (mkF mt 0 #[.val (.ref a), .val (.ref s_)] [])) rfl (hb hby d35_0)
  refine Win.st ?_ st456
  show Win _ _ _ _ T456 (mkF mt 3 #[.val (.ref a), .val (.ref s_)] [(.int cs)])
  refine Win.st ?_ (fun tq kq => XS.ifNo X456.here hx rfl (hb hby d35_3) rfl ((if0 _ _).trans (feq hcs).1) kq)
  refine w_aloadN X456 hx hby d35_6 rfl rfl ?_
  obtain ⟨T457, X457, e457, st457⟩ := getF X456 hx hZ hown (host := "") (Or.inl (ow hw 49 rfl)) Via.refl e456 Bc (g := (mkF mt 7 #[.val (.ref a), .val (.ref s_)] [(.ref a)])) rfl rfl (hb hby d35_7)
  refine Win.st ?_ st457
  refine w_aloadN X457 hx hby d35_10 rfl rfl ?_
  show Win _ _ _ _ T457 (mkF mt 11 #[.val (.ref a), .val (.ref s_)] [(.ref s_), (.int (1 : Int32))])
  obtain ⟨cq458, kq458, q458a, q458b, q458c⟩ := isOf hZ e457 Es
  obtain ⟨v458, _, ⟨T458, L458, k458, n458⟩, -, X458, ⟨Lc458, hQ458, l458, rfl, rfl⟩, st458⟩ := X457.virtualBack hx (y := y_0) (z := y_0) hown (mvT hZ (ow hw 89 rfl)) (mvT hZ (ow hw 67 rfl)) (notFace_of_selects (args := #[]) (mvT hZ (ow hw 69 rfl))) (mvT hZ (ow hw 69 rfl)) (mvT hZ (ow hw 68 rfl)) (by decide) (backOf (W := 1) (rm_coder l Z a0 hw [] s_ (1 : Int32) h0 n0 Z0 Fcs (by decide) ST O) hZ (ow hw 70 rfl) (ow hw 6 rfl) (by decide) (by decide)) q458a q458c (g := (mkF mt 11 #[.val (.ref a), .val (.ref s_)] [(.ref s_), (.int (1 : Int32))])) rfl (by rw [hml]; rfl) (Steps.refl _) (argsL := []) (rest := [(.int (1 : Int32))]) (lenOf pd_0 rfl) rfl (wz rfl) (hb hby d35_11) (fun _ _ => ⟨rfl, e457, (by decide : 0 + 0 ≤ _), (by decide : 0 + 0 ≤ _)⟩)
  replace X458 : Stand p l e _ s mt args below meth cd T458 L458 0 0 := X458
  obtain ⟨rfl, Nq458, eh458⟩ := hQ458
  have N458 := own_fr (L := L458) l458 N0 Nq458
  refine Win.tr ?_ st458
  show Win _ _ _ _ T458 (mkF mt 14 #[.val (.ref a), .val (.ref s_)] [(.int (1 : Int32)), (.int (1 : Int32))])
  refine Win.st ?_ (fun tq kq => XS.icmpYes X458.here hx rfl (pc0 := 14) (pc' := 21) rfl (hb hby d35_14) rfl (teq (rfl : (1 : Int32) = (1 : Int32))).1 (by decide) (by decide) kq)
  show Win _ _ _ _ T458 (mkF mt 21 #[.val (.ref a), .val (.ref s_)] [])
  exact Win.retV X458 hx hlk eh458 hrt (hb hby d35_21) (by decide) (by decide) ⟨rfl, N458, rfl⟩
theorem d35_17 : decode k35 17 = .ok (.aload_n 0, 1) := by decide +kernel
theorem d35_18 : decode k35 18 = .ok (.invokevirtual 195, 3) := by decide +kernel
theorem pd_24 : parseMethodDescriptor "()V" = some ⟨[], none⟩ := by decide +kernel
abbrev r_iin_10 : Room := { frames := 2, cells := 0, slots := 0, locals := 25 }
theorem ef_iin_10 (mt : MethodId) (a : Addr) (s_ : Addr) : entryFrame mt #[(.ref a), (.ref s_)] 2 = mkF mt 0 #[.val (.ref a), .val (.ref s_)] [] := by first | (simp [entryFrame, mkF, argsToLocals, Value.category]; done) | rfl
def Q_iin_10 (Z : State) (a : Addr) (s_ : Addr) (h0 : Heap) (n0 : Nat) (v : Option Value) (h : Heap) (L : List Loc) : Prop := v = none ∧ Fr n0 L ∧ h = h0
theorem rm_iin_10 (l : Launch) (Z : State) (a0 : Array Value) (hw : ∀ d ∈ tables_1, d.before a0 Z = true) (ws : List Jvm.Cond) (a : Addr) (s_ : Addr) (h0 : Heap) (n0 : Nat) (Z0 : n0 ≤ h0.size) (BE : Exa Z h0 a "java/lang/StringBuilder") (Bc : Fld Z h0 a "java/lang/AbstractStringBuilder" "coder" "B" (.int (1 : Int32))) (Es : Exa Z h0 s_ "java/lang/String") (Fcs : Fld Z h0 s_ "java/lang/String" "coder" "B" (.int (0 : Int32))) (ST : own_St Z) (O : Old Z n0 h0) :
    Met l y_35 k35 2 none ws r_iin_10 #[(.ref a), (.ref s_)] Z h0 (Q_iin_10 Z a s_ h0 n0) := by
  refine MetFree.of_bodySF (plainFor_of_name pn_1) hisR ?_
  intro p e s mt args below meth cd s₁ Bd hml0 hP hK
  obtain ⟨hA, hZ, hh⟩ := hP
  have hx := Bd.exec
  have hby := Bd.bytes
  have hml : cd.maxLocals = 2 := hml0
  have hown : s.vm.findClass "java/lang/AbstractStringBuilder" = some mt.cls := findClass_of_methodNamed Bd.named
  have hlk : meth.locks = false := BodyLoose.notSynchronized Bd
  have hrt := Bd.returns
  have X0 : Stand p l e r_iin_10 s mt args below meth cd s₁ [] 0 0 := Stand.of_body Bd
  have e0 : s₁.heap = h0 := by rw [← hh, Bd.state]; rfl
  have N0 := Fr.nil n0
  show Win p e below (Ends s (Q_iin_10 Z a s_ h0 n0) r_iin_10.cells r_iin_10.slots) s₁ (entryFrame mt args 2)
  rw [hA, ef_iin_10]
  obtain ⟨cs, u, S0, hcs, S1, hu, S2, S3, S4⟩ := id ST
  obtain ⟨T459, X459, e459, st459⟩ := getS2 X0 hx hZ hown (host := "") (Or.inl (ow hw 46 rfl)) Via.refl e0 (S0.ext O.2) (g := (mkF mt 0 #[.val (.ref a), .val (.ref s_)] [])) rfl (hb hby d35_0)
  refine Win.st ?_ st459
  show Win _ _ _ _ T459 (mkF mt 3 #[.val (.ref a), .val (.ref s_)] [(.int cs)])
  refine Win.st ?_ (fun tq kq => XS.ifNo X459.here hx rfl (hb hby d35_3) rfl ((if0 _ _).trans (feq hcs).1) kq)
  refine w_aloadN X459 hx hby d35_6 rfl rfl ?_
  obtain ⟨T460, X460, e460, st460⟩ := getF X459 hx hZ hown (host := "") (Or.inl (ow hw 49 rfl)) Via.refl e459 Bc (g := (mkF mt 7 #[.val (.ref a), .val (.ref s_)] [(.ref a)])) rfl rfl (hb hby d35_7)
  refine Win.st ?_ st460
  refine w_aloadN X460 hx hby d35_10 rfl rfl ?_
  show Win _ _ _ _ T460 (mkF mt 11 #[.val (.ref a), .val (.ref s_)] [(.ref s_), (.int (1 : Int32))])
  obtain ⟨cq461, kq461, q461a, q461b, q461c⟩ := isOf hZ e460 Es
  obtain ⟨v461, _, ⟨T461, L461, k461, n461⟩, -, X461, ⟨Lc461, hQ461, l461, rfl, rfl⟩, st461⟩ := X460.virtualBack hx (y := y_0) (z := y_0) hown (mvT hZ (ow hw 89 rfl)) (mvT hZ (ow hw 67 rfl)) (notFace_of_selects (args := #[]) (mvT hZ (ow hw 69 rfl))) (mvT hZ (ow hw 69 rfl)) (mvT hZ (ow hw 68 rfl)) (by decide) (backOf (W := 1) (rm_coder l Z a0 hw [] s_ (0 : Int32) h0 n0 Z0 Fcs (by decide) ST O) hZ (ow hw 70 rfl) (ow hw 6 rfl) (by decide) (by decide)) q461a q461c (g := (mkF mt 11 #[.val (.ref a), .val (.ref s_)] [(.ref s_), (.int (1 : Int32))])) rfl (by rw [hml]; rfl) (Steps.refl _) (argsL := []) (rest := [(.int (1 : Int32))]) (lenOf pd_0 rfl) rfl (wz rfl) (hb hby d35_11) (fun _ _ => ⟨rfl, e460, (by decide : 0 + 0 ≤ _), (by decide : 0 + 0 ≤ _)⟩)
  replace X461 : Stand p l e _ s mt args below meth cd T461 L461 0 0 := X461
  obtain ⟨rfl, Nq461, eh461⟩ := hQ461
  have N461 := own_fr (L := L461) l461 N0 Nq461
  refine Win.tr ?_ st461
  show Win _ _ _ _ T461 (mkF mt 14 #[.val (.ref a), .val (.ref s_)] [(.int (0 : Int32)), (.int (1 : Int32))])
  refine Win.st ?_ (fun tq kq => XS.icmpNo X461.here hx rfl (hb hby d35_14) rfl (feq (by decide : ¬ ((1 : Int32) = (0 : Int32)))).1 kq)
  refine w_aloadN X461 hx hby d35_17 rfl rfl ?_
  show Win _ _ _ _ T461 (mkF mt 18 #[.val (.ref a), .val (.ref s_)] [(.ref a)])
  obtain ⟨cq462, q462, q462'⟩ := BE.cell
  obtain ⟨v462, _, ⟨T462, L462, k462, n462⟩, -, X462, ⟨Lc462, hQ462, l462, rfl, rfl⟩, st462⟩ := X461.privateBack hx (y := y_34) hown (mvT hZ (ow hw 272 rfl)) (mvT hZ (ow hw 273 rfl)) (own_selC (mvT hZ (ow hw 275 rfl)) (Cond.privateMethod_at (mvP hZ (ow hw 274 rfl) (args := #[]))) (mvT hZ (ow hw 273 rfl)) (by decide)) (Cond.privateMethod_at (mvP hZ (ow hw 274 rfl) (args := #[]))) (mvT hZ (ow hw 276 rfl)) (by decide) (backOf (W := 0) (rm_binf1 l Z a0 hw [] a h0 n0 Z0 BE Bc ST O) hZ (ow hw 276 rfl) (ow hw 43 rfl) (by decide) (by decide)) (g := (mkF mt 18 #[.val (.ref a), .val (.ref s_)] [(.ref a)])) rfl (by rw [hml]; rfl) (Steps.refl _) (a := a) (by rw [eh461]; exact q462) q462' (argsL := []) (rest := []) (lenOf pd_24 rfl) rfl (wz rfl) (hb hby d35_18) (fun _ _ => ⟨rfl, eh461, (by decide : 0 + 0 ≤ _), (by decide : 0 + 0 ≤ _)⟩)
  replace X462 : Stand p l e _ s mt args below meth cd T462 L462 0 0 := X462
  obtain ⟨rfl, Nq462, eh462⟩ := hQ462
  have N462 := own_fr (L := L462) l462 N461 Nq462
  refine Win.tr ?_ st462
  show Win _ _ _ _ T462 (mkF mt 21 #[.val (.ref a), .val (.ref s_)] [])
  exact Win.retV X462 hx hlk eh462 hrt (hb hby d35_21) (by decide) (by decide) ⟨rfl, N462, rfl⟩
abbrev r_iin_01 : Room := { frames := 6, cells := 1, slots := 32, locals := 89 }
theorem ef_iin_01 (mt : MethodId) (a : Addr) (s_ : Addr) : entryFrame mt #[(.ref a), (.ref s_)] 2 = mkF mt 0 #[.val (.ref a), .val (.ref s_)] [] := by first | (simp [entryFrame, mkF, argsToLocals, Value.category]; done) | rfl
def Q_iin_01 (Z : State) (a : Addr) (s_ : Addr) (bf : Addr) (kv : ClassId) (vv_ : List Value) (nb : Nat) (fb : Nat → Int32) (h0 : Heap) (n0 : Nat) (v : Option Value) (h : Heap) (L : List Loc) : Prop := v = none ∧ Fr n0 L ∧ Keep h0 h [a] ∧ ∃ (t : Addr) (k : ClassId) (vs : List Value), h0.size ≤ t ∧ n0 ≤ t ∧ Fld Z h a "java/lang/AbstractStringBuilder" "value" "[B" (.ref t) ∧ Fld Z h a "java/lang/AbstractStringBuilder" "coder" "B" (.int (1 : Int32)) ∧ Fld Z h a "java/lang/AbstractStringBuilder" "count" "I" (.int (own_I nb)) ∧ Fld Z h a "java/lang/AbstractStringBuilder" "maybeLatin1" "Z" (.int (0 : Int32)) ∧ Arv Z h t k .byte (32 : Int32) vs (.int (0 : Int32)) ∧ Exa Z h t "[B" ∧ vs.length = 32 ∧ own_E1 fb nb vs
theorem rm_iin_01 (l : Launch) (Z : State) (a0 : Array Value) (hw : ∀ d ∈ tables_1, d.before a0 Z = true) (ws : List Jvm.Cond) (a : Addr) (s_ : Addr) (bf : Addr) (kv : ClassId) (vv_ : List Value) (nb : Nat) (fb : Nat → Int32) (h0 : Heap) (n0 : Nat) (Z0 : n0 ≤ h0.size) (BE : Exa Z h0 a "java/lang/StringBuilder") (Bv : Fld Z h0 a "java/lang/AbstractStringBuilder" "value" "[B" (.ref bf)) (Bc : Fld Z h0 a "java/lang/AbstractStringBuilder" "coder" "B" (.int (0 : Int32))) (Bn : Fld Z h0 a "java/lang/AbstractStringBuilder" "count" "I" (.int (own_I nb))) (Bm : Fld Z h0 a "java/lang/AbstractStringBuilder" "maybeLatin1" "Z" (.int (0 : Int32))) (BV : Arv Z h0 bf kv .byte (16 : Int32) vv_ (.int (0 : Int32))) (BX : Exa Z h0 bf "[B") (ga : n0 ≤ a) (gv : n0 ≤ bf) (hnb : nb ≤ 16) (HE : own_E0 fb nb vv_) (Es : Exa Z h0 s_ "java/lang/String") (Fcs : Fld Z h0 s_ "java/lang/String" "coder" "B" (.int (1 : Int32))) (ST : own_St Z) (O : Old Z n0 h0) :
    Met l y_35 k35 2 none ws r_iin_01 #[(.ref a), (.ref s_)] Z h0 (Q_iin_01 Z a s_ bf kv vv_ nb fb h0 n0) := by
  refine MetFree.of_bodySF (plainFor_of_name pn_1) hisR ?_
  intro p e s mt args below meth cd s₁ Bd hml0 hP hK
  obtain ⟨hA, hZ, hh⟩ := hP
  have hx := Bd.exec
  have hby := Bd.bytes
  have hml : cd.maxLocals = 2 := hml0
  have hown : s.vm.findClass "java/lang/AbstractStringBuilder" = some mt.cls := findClass_of_methodNamed Bd.named
  have hlk : meth.locks = false := BodyLoose.notSynchronized Bd
  have hrt := Bd.returns
  have X0 : Stand p l e r_iin_01 s mt args below meth cd s₁ [] 0 0 := Stand.of_body Bd
  have e0 : s₁.heap = h0 := by rw [← hh, Bd.state]; rfl
  have N0 := Fr.nil n0
  show Win p e below (Ends s (Q_iin_01 Z a s_ bf kv vv_ nb fb h0 n0) r_iin_01.cells r_iin_01.slots) s₁ (entryFrame mt args 2)
  rw [hA, ef_iin_01]
  obtain ⟨cs, u, S0, hcs, S1, hu, S2, S3, S4⟩ := id ST
  have nva : a ≠ bf := Exa.neArv BE BV (ow hw 34 rfl)
  obtain ⟨T463, X463, e463, st463⟩ := getS2 X0 hx hZ hown (host := "") (Or.inl (ow hw 46 rfl)) Via.refl e0 (S0.ext O.2) (g := (mkF mt 0 #[.val (.ref a), .val (.ref s_)] [])) rfl (hb hby d35_0)
  refine Win.st ?_ st463
  show Win _ _ _ _ T463 (mkF mt 3 #[.val (.ref a), .val (.ref s_)] [(.int cs)])
  refine Win.st ?_ (fun tq kq => XS.ifNo X463.here hx rfl (hb hby d35_3) rfl ((if0 _ _).trans (feq hcs).1) kq)
  refine w_aloadN X463 hx hby d35_6 rfl rfl ?_
  obtain ⟨T464, X464, e464, st464⟩ := getF X463 hx hZ hown (host := "") (Or.inl (ow hw 49 rfl)) Via.refl e463 Bc (g := (mkF mt 7 #[.val (.ref a), .val (.ref s_)] [(.ref a)])) rfl rfl (hb hby d35_7)
  refine Win.st ?_ st464
  refine w_aloadN X464 hx hby d35_10 rfl rfl ?_
  show Win _ _ _ _ T464 (mkF mt 11 #[.val (.ref a), .val (.ref s_)] [(.ref s_), (.int (0 : Int32))])
  obtain ⟨cq465, kq465, q465a, q465b, q465c⟩ := isOf hZ e464 Es
  obtain ⟨v465, _, ⟨T465, L465, k465, n465⟩, -, X465, ⟨Lc465, hQ465, l465, rfl, rfl⟩, st465⟩ := X464.virtualBack hx (y := y_0) (z := y_0) hown (mvT hZ (ow hw 89 rfl)) (mvT hZ (ow hw 67 rfl)) (notFace_of_selects (args := #[]) (mvT hZ (ow hw 69 rfl))) (mvT hZ (ow hw 69 rfl)) (mvT hZ (ow hw 68 rfl)) (by decide) (backOf (W := 1) (rm_coder l Z a0 hw [] s_ (1 : Int32) h0 n0 Z0 Fcs (by decide) ST O) hZ (ow hw 70 rfl) (ow hw 6 rfl) (by decide) (by decide)) q465a q465c (g := (mkF mt 11 #[.val (.ref a), .val (.ref s_)] [(.ref s_), (.int (0 : Int32))])) rfl (by rw [hml]; rfl) (Steps.refl _) (argsL := []) (rest := [(.int (0 : Int32))]) (lenOf pd_0 rfl) rfl (wz rfl) (hb hby d35_11) (fun _ _ => ⟨rfl, e464, (by decide : 0 + 0 ≤ _), (by decide : 0 + 0 ≤ _)⟩)
  replace X465 : Stand p l e _ s mt args below meth cd T465 L465 0 0 := X465
  obtain ⟨rfl, Nq465, eh465⟩ := hQ465
  have N465 := own_fr (L := L465) l465 N0 Nq465
  refine Win.tr ?_ st465
  show Win _ _ _ _ T465 (mkF mt 14 #[.val (.ref a), .val (.ref s_)] [(.int (1 : Int32)), (.int (0 : Int32))])
  refine Win.st ?_ (fun tq kq => XS.icmpNo X465.here hx rfl (hb hby d35_14) rfl (feq (by decide : ¬ ((0 : Int32) = (1 : Int32)))).1 kq)
  refine w_aloadN X465 hx hby d35_17 rfl rfl ?_
  show Win _ _ _ _ T465 (mkF mt 18 #[.val (.ref a), .val (.ref s_)] [(.ref a)])
  obtain ⟨cq466, q466, q466'⟩ := BE.cell
  obtain ⟨v466, _, ⟨T466, L466, k466, n466⟩, -, X466, ⟨Lc466, hQ466, l466, rfl, rfl⟩, st466⟩ := X465.privateBack hx (y := y_34) hown (mvT hZ (ow hw 272 rfl)) (mvT hZ (ow hw 273 rfl)) (own_selC (mvT hZ (ow hw 275 rfl)) (Cond.privateMethod_at (mvP hZ (ow hw 274 rfl) (args := #[]))) (mvT hZ (ow hw 273 rfl)) (by decide)) (Cond.privateMethod_at (mvP hZ (ow hw 274 rfl) (args := #[]))) (mvT hZ (ow hw 276 rfl)) (by decide) (backOf (W := 0) (rm_binf0 l Z a0 hw [] a bf kv vv_ nb fb h0 n0 Z0 BE Bv Bc Bn Bm BV BX ga gv hnb HE ST O) hZ (ow hw 276 rfl) (ow hw 43 rfl) (by decide) (by decide)) (g := (mkF mt 18 #[.val (.ref a), .val (.ref s_)] [(.ref a)])) rfl (by rw [hml]; rfl) (Steps.refl _) (a := a) (by rw [eh465]; exact q466) q466' (argsL := []) (rest := []) (lenOf pd_24 rfl) rfl (wz rfl) (hb hby d35_18) (fun _ _ => ⟨rfl, eh465, (by decide : 0 + 1 ≤ _), (by decide : 0 + 32 ≤ _)⟩)
  replace X466 : Stand p l e _ s mt args below meth cd T466 L466 1 32 := X466
  obtain ⟨h466, e466⟩ : ∃ z, T466.heap = z := ⟨_, rfl⟩
  rw [e466] at hQ466
  obtain ⟨rfl, Nq466, K466, hs6⟩ := hQ466
  have N466 := own_fr (L := L466) l466 N465 Nq466
  have K469 : Keep h0 h466 [a] := Keep.trans (Keep.refl h0 [a]) K466 (allS (Or.inl (List.mem_of_getElem? (i := 0) rfl)) all0)
  refine Win.tr ?_ st466
  show Win _ _ _ _ T466 (mkF mt 21 #[.val (.ref a), .val (.ref s_)] [])
  exact Win.retV X466 hx hlk e466 hrt (hb hby d35_21) (by decide) (by decide) ⟨rfl, N466, K469, hs6⟩
abbrev k36 : ByteArray := jdk_42_method_147_code
theorem d36_0 : decode k36 0 = .ok (.aload_n 0, 1) := by decide +kernel
theorem d36_1 : decode k36 1 = .ok (.invokevirtual 335, 3) := by decide +kernel
theorem d36_4 : decode k36 4 = .ok (.iload_n 3, 1) := by decide +kernel
theorem d36_5 : decode k36 5 = .ok (.if_icmp .ne 23, 3) := by decide +kernel
theorem d36_8 : decode k36 8 = .ok (.aload_n 0, 1) := by decide +kernel
theorem d36_9 : decode k36 9 = .ok (.getfield 9, 3) := by decide +kernel
theorem d36_12 : decode k36 12 = .ok (.iconst 0, 1) := by decide +kernel
theorem d36_13 : decode k36 13 = .ok (.aload_n 1, 1) := by decide +kernel
theorem d36_14 : decode k36 14 = .ok (.iload_n 2, 1) := by decide +kernel
theorem d36_15 : decode k36 15 = .ok (.iload_n 3, 1) := by decide +kernel
theorem d36_16 : decode k36 16 = .ok (.ishl, 1) := by decide +kernel
theorem d36_17 : decode k36 17 = .ok (.aload_n 0, 1) := by decide +kernel
theorem d36_18 : decode k36 18 = .ok (.getfield 9, 3) := by decide +kernel
theorem d36_21 : decode k36 21 = .ok (.arraylength, 1) := by decide +kernel
theorem d36_22 : decode k36 22 = .ok (.invokestatic 212, 3) := by decide +kernel
theorem d36_25 : decode k36 25 = .ok (.goto 18, 3) := by decide +kernel
theorem d36_43 : decode k36 43 = .ok (.return_, 1) := by decide +kernel
abbrev y_36 : MethodName := ⟨"java/lang/String", "getBytes", "([BIB)V"⟩
abbrev r_gb_00 : Room := { frames := 1, cells := 0, slots := 0, locals := 18 }
theorem ef_gb_00 (mt : MethodId) (s_ : Addr) (b : Addr) (nb : Nat) : entryFrame mt #[(.ref s_), (.ref b), (.int (own_I nb)), (.int (0 : Int32))] 4 = mkF mt 0 #[.val (.ref s_), .val (.ref b), .val (.int (own_I nb)), .val (.int (0 : Int32))] [] := by first | (simp [entryFrame, mkF, argsToLocals, Value.category]; done) | rfl
def Q_gb_00 (Z : State) (s_ : Addr) (b : Addr) (bss : Addr) (kss : ClassId) (vss : List Value) (ns : Nat) (fs : Nat → Int32) (kb : ClassId) (vb : List Value) (nb : Nat) (fb : Nat → Int32) (h0 : Heap) (n0 : Nat) (v : Option Value) (h : Heap) (L : List Loc) : Prop := v = none ∧ Fr n0 L ∧ Keep h0 h [b] ∧ ∃ vs : List Value, vs.length = 16 ∧ Arv Z h b kb .byte (16 : Int32) vs (.int (0 : Int32)) ∧ own_E0 (own_cat nb fb fs) (nb + ns) vs
theorem rm_gb_00 (l : Launch) (Z : State) (a0 : Array Value) (hw : ∀ d ∈ tables_1, d.before a0 Z = true) (ws : List Jvm.Cond) (s_ : Addr) (b : Addr) (bss : Addr) (kss : ClassId) (vss : List Value) (ns : Nat) (fs : Nat → Int32) (kb : ClassId) (vb : List Value) (nb : Nat) (fb : Nat → Int32) (h0 : Heap) (n0 : Nat) (Z0 : n0 ≤ h0.size) (Es : Exa Z h0 s_ "java/lang/String") (Fvs : Fld Z h0 s_ "java/lang/String" "value" "[B" (.ref bss)) (Fcs : Fld Z h0 s_ "java/lang/String" "coder" "B" (.int (0 : Int32))) (Vs : Arv Z h0 bss kss .byte (own_I ns) vss (.int (0 : Int32))) (hns : ns ≤ 16) (HEs : own_E0 fs ns vss) (VD : Arv Z h0 b kb .byte (16 : Int32) vb (.int (0 : Int32))) (hlb : vb.length = 16) (HD : own_E0 fb nb vb) (hd : nb + ns ≤ 16) (nbb : bss ≠ b) (gb : n0 ≤ b) (ST : own_St Z) (O : Old Z n0 h0) :
    Met l y_36 k36 4 none ws r_gb_00 #[(.ref s_), (.ref b), (.int (own_I nb)), (.int (0 : Int32))] Z h0 (Q_gb_00 Z s_ b bss kss vss ns fs kb vb nb fb h0 n0) := by
  refine MetFree.of_bodySF (plainFor_of_name pn_0) hisR ?_
  intro p e s mt args below meth cd s₁ Bd hml0 hP hK
  obtain ⟨hA, hZ, hh⟩ := hP
  have hx := Bd.exec
  have hby := Bd.bytes
  have hml : cd.maxLocals = 4 := hml0
  have hown : s.vm.findClass "java/lang/String" = some mt.cls := findClass_of_methodNamed Bd.named
  have hlk : meth.locks = false := BodyLoose.notSynchronized Bd
  have hrt := Bd.returns
  have X0 : Stand p l e r_gb_00 s mt args below meth cd s₁ [] 0 0 := Stand.of_body Bd
  have e0 : s₁.heap = h0 := by rw [← hh, Bd.state]; rfl
  have N0 := Fr.nil n0
  show Win p e below (Ends s (Q_gb_00 Z s_ b bss kss vss ns fs kb vb nb fb h0 n0) r_gb_00.cells r_gb_00.slots) s₁ (entryFrame mt args 4)
  rw [hA, ef_gb_00]
  obtain ⟨cs, u, S0, hcs, S1, hu, S2, S3, S4⟩ := id ST
  have nsb : s_ ≠ b := Exa.neArv Es VD (ow hw 5 rfl)
  refine w_aloadN X0 hx hby d36_0 rfl rfl ?_
  show Win _ _ _ _ s₁ (mkF mt 1 #[.val (.ref s_), .val (.ref b), .val (.int (own_I nb)), .val (.int (0 : Int32))] [(.ref s_)])
  obtain ⟨cq470, kq470, q470a, q470b, q470c⟩ := isOf hZ e0 Es
  obtain ⟨v470, _, ⟨T470, L470, k470, n470⟩, -, X470, ⟨Lc470, hQ470, l470, rfl, rfl⟩, st470⟩ := X0.virtualBack hx (y := y_0) (z := y_0) hown (mvT hZ (ow hw 66 rfl)) (mvT hZ (ow hw 67 rfl)) (notFace_of_selects (args := #[]) (mvT hZ (ow hw 69 rfl))) (mvT hZ (ow hw 69 rfl)) (mvT hZ (ow hw 68 rfl)) (by decide) (backOf (W := 0) (rm_coder l Z a0 hw [] s_ (0 : Int32) h0 n0 Z0 Fcs (by decide) ST O) hZ (ow hw 70 rfl) (ow hw 6 rfl) (by decide) (by decide)) q470a q470c (g := (mkF mt 1 #[.val (.ref s_), .val (.ref b), .val (.int (own_I nb)), .val (.int (0 : Int32))] [(.ref s_)])) rfl (by rw [hml]; rfl) (Steps.refl _) (argsL := []) (rest := []) (lenOf pd_0 rfl) rfl (wz rfl) (hb hby d36_1) (fun _ _ => ⟨rfl, e0, (by decide : 0 + 0 ≤ _), (by decide : 0 + 0 ≤ _)⟩)
  replace X470 : Stand p l e _ s mt args below meth cd T470 L470 0 0 := X470
  obtain ⟨rfl, Nq470, eh470⟩ := hQ470
  have N470 := own_fr (L := L470) l470 N0 Nq470
  refine Win.tr ?_ st470
  refine w_iloadN X470 hx hby d36_4 rfl ?_
  refine Win.st ?_ (fun tq kq => XS.icmpNo X470.here hx rfl (hb hby d36_5) rfl (teq (rfl : (0 : Int32) = (0 : Int32))).2 kq)
  refine w_aloadN X470 hx hby d36_8 rfl rfl ?_
  obtain ⟨T471, X471, e471, st471⟩ := getF X470 hx hZ hown (host := "") (Or.inl (ow hw 24 rfl)) Via.refl eh470 Fvs (g := (mkF mt 9 #[.val (.ref s_), .val (.ref b), .val (.int (own_I nb)), .val (.int (0 : Int32))] [(.ref s_)])) rfl rfl (hb hby d36_9)
  refine Win.st ?_ st471
  refine w_iconst X471 hx hby d36_12 ?_
  refine w_aloadN X471 hx hby d36_13 rfl rfl ?_
  refine w_iloadN X471 hx hby d36_14 rfl ?_
  refine w_iloadN X471 hx hby d36_15 rfl ?_
  refine Win.st ?_ (fun tq kq => XS.ishl X471.here hx rfl (hb hby d36_16) rfl kq)
  refine w_aloadN X471 hx hby d36_17 rfl rfl ?_
  obtain ⟨T472, X472, e472, st472⟩ := getF X471 hx hZ hown (host := "") (Or.inl (ow hw 24 rfl)) Via.refl e471 Fvs (g := (mkF mt 18 #[.val (.ref s_), .val (.ref b), .val (.int (own_I nb)), .val (.int (0 : Int32))] [(.ref s_), (.int ((own_I nb) <<< ((0 : Int32) &&& 31))), (.ref b), (.int (0 : Int32)), (.ref bss)])) rfl rfl (hb hby d36_18)
  refine Win.st ?_ st472
  show Win _ _ _ _ T472 (mkF mt 21 #[.val (.ref s_), .val (.ref b), .val (.int (own_I nb)), .val (.int (0 : Int32))] [(.ref bss), (.int ((own_I nb) <<< ((0 : Int32) &&& 31))), (.ref b), (.int (0 : Int32)), (.ref bss)])
  refine Win.st ?_ (own_alen (g := (mkF mt 21 #[.val (.ref s_), .val (.ref b), .val (.int (own_I nb)), .val (.int (0 : Int32))] [(.ref bss), (.int ((own_I nb) <<< ((0 : Int32) &&& 31))), (.ref b), (.int (0 : Int32)), (.ref bss)])) X472 hx hZ e472 Vs rfl rfl (hb hby d36_21))
  show Win _ _ _ _ T472 (mkF mt 22 #[.val (.ref s_), .val (.ref b), .val (.int (own_I nb)), .val (.int (0 : Int32))] [(.int (own_I ns)), (.int ((own_I nb) <<< ((0 : Int32) &&& 31))), (.ref b), (.int (0 : Int32)), (.ref bss)])
  rw [own_shl0]
  show Win _ _ _ _ T472 (mkF mt 22 #[.val (.ref s_), .val (.ref b), .val (.int (own_I nb)), .val (.int (0 : Int32))] [(.int (own_I ns)), (.int (own_I nb)), (.ref b), (.int (0 : Int32)), (.ref bss)])
  obtain ⟨T473, h473, L473, X473, e473, N473, kp473, V473, st473⟩ := cpA X472 hx hZ hown (ow hw 95 rfl) (ow hw 98 rfl) (ow hw 96 rfl) (ow hw 97 rfl) e472 Vs VD (Or.inl ⟨rfl, rfl⟩) (by decide) (own_I_nn (by omega)) (own_I_nn (by omega)) (by rw [own_cl0, own_I_cl (n := ns) (by omega)]; omega) (by rw [own_cl16, own_I_cl (n := nb) (by omega), own_I_cl (n := ns) (by omega)]; omega) (us := ((List.range (ns)).map fun i => vss.getD (0 + i) (.int (0 : Int32)))) (by rw [own_cl0, own_I_cl (n := ns) (by omega)]) (by rw [own_I_cl (n := nb) (by omega), own_I_cl (n := ns) (by omega)]; omega) N470 gb (g := (mkF mt 22 #[.val (.ref s_), .val (.ref b), .val (.int (own_I nb)), .val (.int (0 : Int32))] [(.int (own_I ns)), (.int (own_I nb)), (.ref b), (.int (0 : Int32)), (.ref bss)])) rfl (by rw [hml]; rfl) rfl (hb hby d36_22) (by decide) (W := 0) (by show 2 * 0 + _ ≤ _; exact Nat.le_of_eq rfl) (by decide)
  rw [own_I_cl (n := nb) (by omega), own_I_cl (n := ns) (by omega)] at V473
  have K476 : Keep h0 h473 [b] := Keep.trans (Keep.refl h0 [b]) kp473 (allS (Or.inl (List.mem_of_getElem? (i := 0) rfl)) all0)
  refine Win.st ?_ st473
  show Win _ _ _ _ T473 (mkF mt 25 #[.val (.ref s_), .val (.ref b), .val (.int (own_I nb)), .val (.int (0 : Int32))] [])
  refine Win.st ?_ (fun tq kq => XS.goto X473.here hx rfl (pc0 := 25) (pc' := 43) rfl (hb hby d36_25) (by decide) (by decide) kq)
  show Win _ _ _ _ T473 (mkF mt 43 #[.val (.ref s_), .val (.ref b), .val (.int (own_I nb)), .val (.int (0 : Int32))] [])
  exact Win.retV X473 hx hlk e473 hrt (hb hby d36_43) (by decide) (by decide) ⟨rfl, N473, K476, _, (own_copy_len rfl (by omega)).trans hlb, V473, own_app0 rfl (by omega) HD HEs⟩
abbrev r_gb_11 : Room := { frames := 1, cells := 0, slots := 0, locals := 18 }
theorem ef_gb_11 (mt : MethodId) (s_ : Addr) (b : Addr) (nb : Nat) : entryFrame mt #[(.ref s_), (.ref b), (.int (own_I nb)), (.int (1 : Int32))] 4 = mkF mt 0 #[.val (.ref s_), .val (.ref b), .val (.int (own_I nb)), .val (.int (1 : Int32))] [] := by first | (simp [entryFrame, mkF, argsToLocals, Value.category]; done) | rfl
def Q_gb_11 (Z : State) (s_ : Addr) (b : Addr) (bss : Addr) (kss : ClassId) (vss : List Value) (ns : Nat) (fs : Nat → Int32) (kb : ClassId) (vb : List Value) (nb : Nat) (fb : Nat → Int32) (h0 : Heap) (n0 : Nat) (v : Option Value) (h : Heap) (L : List Loc) : Prop := v = none ∧ Fr n0 L ∧ Keep h0 h [b] ∧ ∃ vs : List Value, vs.length = 32 ∧ Arv Z h b kb .byte (32 : Int32) vs (.int (0 : Int32)) ∧ own_E1 (own_cat nb fb fs) (nb + ns) vs
theorem rm_gb_11 (l : Launch) (Z : State) (a0 : Array Value) (hw : ∀ d ∈ tables_1, d.before a0 Z = true) (ws : List Jvm.Cond) (s_ : Addr) (b : Addr) (bss : Addr) (kss : ClassId) (vss : List Value) (ns : Nat) (fs : Nat → Int32) (kb : ClassId) (vb : List Value) (nb : Nat) (fb : Nat → Int32) (h0 : Heap) (n0 : Nat) (Z0 : n0 ≤ h0.size) (Es : Exa Z h0 s_ "java/lang/String") (Fvs : Fld Z h0 s_ "java/lang/String" "value" "[B" (.ref bss)) (Fcs : Fld Z h0 s_ "java/lang/String" "coder" "B" (.int (1 : Int32))) (Vs : Arv Z h0 bss kss .byte (own_I (2 * ns)) vss (.int (0 : Int32))) (hns : ns ≤ 16) (HEs : own_E1 fs ns vss) (VD : Arv Z h0 b kb .byte (32 : Int32) vb (.int (0 : Int32))) (hlb : vb.length = 32) (HD : own_E1 fb nb vb) (hd : nb + ns ≤ 16) (nbb : bss ≠ b) (gb : n0 ≤ b) (ST : own_St Z) (O : Old Z n0 h0) :
    Met l y_36 k36 4 none ws r_gb_11 #[(.ref s_), (.ref b), (.int (own_I nb)), (.int (1 : Int32))] Z h0 (Q_gb_11 Z s_ b bss kss vss ns fs kb vb nb fb h0 n0) := by
  refine MetFree.of_bodySF (plainFor_of_name pn_0) hisR ?_
  intro p e s mt args below meth cd s₁ Bd hml0 hP hK
  obtain ⟨hA, hZ, hh⟩ := hP
  have hx := Bd.exec
  have hby := Bd.bytes
  have hml : cd.maxLocals = 4 := hml0
  have hown : s.vm.findClass "java/lang/String" = some mt.cls := findClass_of_methodNamed Bd.named
  have hlk : meth.locks = false := BodyLoose.notSynchronized Bd
  have hrt := Bd.returns
  have X0 : Stand p l e r_gb_11 s mt args below meth cd s₁ [] 0 0 := Stand.of_body Bd
  have e0 : s₁.heap = h0 := by rw [← hh, Bd.state]; rfl
  have N0 := Fr.nil n0
  show Win p e below (Ends s (Q_gb_11 Z s_ b bss kss vss ns fs kb vb nb fb h0 n0) r_gb_11.cells r_gb_11.slots) s₁ (entryFrame mt args 4)
  rw [hA, ef_gb_11]
  obtain ⟨cs, u, S0, hcs, S1, hu, S2, S3, S4⟩ := id ST
  have nsb : s_ ≠ b := Exa.neArv Es VD (ow hw 5 rfl)
  refine w_aloadN X0 hx hby d36_0 rfl rfl ?_
  show Win _ _ _ _ s₁ (mkF mt 1 #[.val (.ref s_), .val (.ref b), .val (.int (own_I nb)), .val (.int (1 : Int32))] [(.ref s_)])
  obtain ⟨cq477, kq477, q477a, q477b, q477c⟩ := isOf hZ e0 Es
  obtain ⟨v477, _, ⟨T477, L477, k477, n477⟩, -, X477, ⟨Lc477, hQ477, l477, rfl, rfl⟩, st477⟩ := X0.virtualBack hx (y := y_0) (z := y_0) hown (mvT hZ (ow hw 66 rfl)) (mvT hZ (ow hw 67 rfl)) (notFace_of_selects (args := #[]) (mvT hZ (ow hw 69 rfl))) (mvT hZ (ow hw 69 rfl)) (mvT hZ (ow hw 68 rfl)) (by decide) (backOf (W := 0) (rm_coder l Z a0 hw [] s_ (1 : Int32) h0 n0 Z0 Fcs (by decide) ST O) hZ (ow hw 70 rfl) (ow hw 6 rfl) (by decide) (by decide)) q477a q477c (g := (mkF mt 1 #[.val (.ref s_), .val (.ref b), .val (.int (own_I nb)), .val (.int (1 : Int32))] [(.ref s_)])) rfl (by rw [hml]; rfl) (Steps.refl _) (argsL := []) (rest := []) (lenOf pd_0 rfl) rfl (wz rfl) (hb hby d36_1) (fun _ _ => ⟨rfl, e0, (by decide : 0 + 0 ≤ _), (by decide : 0 + 0 ≤ _)⟩)
  replace X477 : Stand p l e _ s mt args below meth cd T477 L477 0 0 := X477
  obtain ⟨rfl, Nq477, eh477⟩ := hQ477
  have N477 := own_fr (L := L477) l477 N0 Nq477
  refine Win.tr ?_ st477
  refine w_iloadN X477 hx hby d36_4 rfl ?_
  refine Win.st ?_ (fun tq kq => XS.icmpNo X477.here hx rfl (hb hby d36_5) rfl (teq (rfl : (1 : Int32) = (1 : Int32))).2 kq)
  refine w_aloadN X477 hx hby d36_8 rfl rfl ?_
  obtain ⟨T478, X478, e478, st478⟩ := getF X477 hx hZ hown (host := "") (Or.inl (ow hw 24 rfl)) Via.refl eh477 Fvs (g := (mkF mt 9 #[.val (.ref s_), .val (.ref b), .val (.int (own_I nb)), .val (.int (1 : Int32))] [(.ref s_)])) rfl rfl (hb hby d36_9)
  refine Win.st ?_ st478
  refine w_iconst X478 hx hby d36_12 ?_
  refine w_aloadN X478 hx hby d36_13 rfl rfl ?_
  refine w_iloadN X478 hx hby d36_14 rfl ?_
  refine w_iloadN X478 hx hby d36_15 rfl ?_
  refine Win.st ?_ (fun tq kq => XS.ishl X478.here hx rfl (hb hby d36_16) rfl kq)
  refine w_aloadN X478 hx hby d36_17 rfl rfl ?_
  obtain ⟨T479, X479, e479, st479⟩ := getF X478 hx hZ hown (host := "") (Or.inl (ow hw 24 rfl)) Via.refl e478 Fvs (g := (mkF mt 18 #[.val (.ref s_), .val (.ref b), .val (.int (own_I nb)), .val (.int (1 : Int32))] [(.ref s_), (.int ((own_I nb) <<< ((1 : Int32) &&& 31))), (.ref b), (.int (0 : Int32)), (.ref bss)])) rfl rfl (hb hby d36_18)
  refine Win.st ?_ st479
  show Win _ _ _ _ T479 (mkF mt 21 #[.val (.ref s_), .val (.ref b), .val (.int (own_I nb)), .val (.int (1 : Int32))] [(.ref bss), (.int ((own_I nb) <<< ((1 : Int32) &&& 31))), (.ref b), (.int (0 : Int32)), (.ref bss)])
  refine Win.st ?_ (own_alen (g := (mkF mt 21 #[.val (.ref s_), .val (.ref b), .val (.int (own_I nb)), .val (.int (1 : Int32))] [(.ref bss), (.int ((own_I nb) <<< ((1 : Int32) &&& 31))), (.ref b), (.int (0 : Int32)), (.ref bss)])) X479 hx hZ e479 Vs rfl rfl (hb hby d36_21))
  show Win _ _ _ _ T479 (mkF mt 22 #[.val (.ref s_), .val (.ref b), .val (.int (own_I nb)), .val (.int (1 : Int32))] [(.int (own_I (2 * ns))), (.int ((own_I nb) <<< ((1 : Int32) &&& 31))), (.ref b), (.int (0 : Int32)), (.ref bss)])
  rw [own_shl1 (n := nb) (by omega)]
  show Win _ _ _ _ T479 (mkF mt 22 #[.val (.ref s_), .val (.ref b), .val (.int (own_I nb)), .val (.int (1 : Int32))] [(.int (own_I (2 * ns))), (.int (own_I (2 * nb))), (.ref b), (.int (0 : Int32)), (.ref bss)])
  obtain ⟨T480, h480, L480, X480, e480, N480, kp480, V480, st480⟩ := cpA X479 hx hZ hown (ow hw 95 rfl) (ow hw 98 rfl) (ow hw 96 rfl) (ow hw 97 rfl) e479 Vs VD (Or.inl ⟨rfl, rfl⟩) (by decide) (own_I_nn (by omega)) (own_I_nn (by omega)) (by rw [own_cl0, own_I_cl (n := 2 * ns) (by omega)]; omega) (by rw [own_cl32, own_I_cl (n := 2 * nb) (by omega), own_I_cl (n := 2 * ns) (by omega)]; omega) (us := ((List.range (2 * ns)).map fun i => vss.getD (0 + i) (.int (0 : Int32)))) (by rw [own_cl0, own_I_cl (n := 2 * ns) (by omega)]) (by rw [own_I_cl (n := 2 * nb) (by omega), own_I_cl (n := 2 * ns) (by omega)]; omega) N477 gb (g := (mkF mt 22 #[.val (.ref s_), .val (.ref b), .val (.int (own_I nb)), .val (.int (1 : Int32))] [(.int (own_I (2 * ns))), (.int (own_I (2 * nb))), (.ref b), (.int (0 : Int32)), (.ref bss)])) rfl (by rw [hml]; rfl) rfl (hb hby d36_22) (by decide) (W := 0) (by show 2 * 0 + _ ≤ _; exact Nat.le_of_eq rfl) (by decide)
  rw [own_I_cl (n := 2 * nb) (by omega), own_I_cl (n := 2 * ns) (by omega)] at V480
  have K483 : Keep h0 h480 [b] := Keep.trans (Keep.refl h0 [b]) kp480 (allS (Or.inl (List.mem_of_getElem? (i := 0) rfl)) all0)
  refine Win.st ?_ st480
  show Win _ _ _ _ T480 (mkF mt 25 #[.val (.ref s_), .val (.ref b), .val (.int (own_I nb)), .val (.int (1 : Int32))] [])
  refine Win.st ?_ (fun tq kq => XS.goto X480.here hx rfl (pc0 := 25) (pc' := 43) rfl (hb hby d36_25) (by decide) (by decide) kq)
  show Win _ _ _ _ T480 (mkF mt 43 #[.val (.ref s_), .val (.ref b), .val (.int (own_I nb)), .val (.int (1 : Int32))] [])
  exact Win.retV X480 hx hlk e480 hrt (hb hby d36_43) (by decide) (by decide) ⟨rfl, N480, K483, _, (own_copy_len rfl (by omega)).trans hlb, V480, own_app1 rfl (by omega) HD HEs⟩
theorem d36_28 : decode k36 28 = .ok (.aload_n 0, 1) := by decide +kernel
theorem d36_29 : decode k36 29 = .ok (.getfield 9, 3) := by decide +kernel
theorem d36_32 : decode k36 32 = .ok (.iconst 0, 1) := by decide +kernel
theorem d36_33 : decode k36 33 = .ok (.aload_n 1, 1) := by decide +kernel
theorem d36_34 : decode k36 34 = .ok (.iload_n 2, 1) := by decide +kernel
theorem d36_35 : decode k36 35 = .ok (.aload_n 0, 1) := by decide +kernel
theorem d36_36 : decode k36 36 = .ok (.getfield 9, 3) := by decide +kernel
theorem d36_39 : decode k36 39 = .ok (.arraylength, 1) := by decide +kernel
theorem d36_40 : decode k36 40 = .ok (.invokestatic 106, 3) := by decide +kernel
abbrev r_gb_01 : Room := { frames := 5, cells := 0, slots := 0, locals := 76 }
theorem ef_gb_01 (mt : MethodId) (s_ : Addr) (b : Addr) (nb : Nat) : entryFrame mt #[(.ref s_), (.ref b), (.int (own_I nb)), (.int (1 : Int32))] 4 = mkF mt 0 #[.val (.ref s_), .val (.ref b), .val (.int (own_I nb)), .val (.int (1 : Int32))] [] := by first | (simp [entryFrame, mkF, argsToLocals, Value.category]; done) | rfl
def Q_gb_01 (Z : State) (s_ : Addr) (b : Addr) (bss : Addr) (kss : ClassId) (vss : List Value) (ns : Nat) (fs : Nat → Int32) (kb : ClassId) (vb : List Value) (nb : Nat) (fb : Nat → Int32) (h0 : Heap) (n0 : Nat) (v : Option Value) (h : Heap) (L : List Loc) : Prop := v = none ∧ Fr n0 L ∧ Keep h0 h [b] ∧ ∃ vs : List Value, vs.length = 32 ∧ Arv Z h b kb .byte (32 : Int32) vs (.int (0 : Int32)) ∧ own_E1 (own_cat nb fb fs) (nb + ns) vs
theorem rm_gb_01 (l : Launch) (Z : State) (a0 : Array Value) (hw : ∀ d ∈ tables_1, d.before a0 Z = true) (ws : List Jvm.Cond) (s_ : Addr) (b : Addr) (bss : Addr) (kss : ClassId) (vss : List Value) (ns : Nat) (fs : Nat → Int32) (kb : ClassId) (vb : List Value) (nb : Nat) (fb : Nat → Int32) (h0 : Heap) (n0 : Nat) (Z0 : n0 ≤ h0.size) (Es : Exa Z h0 s_ "java/lang/String") (Fvs : Fld Z h0 s_ "java/lang/String" "value" "[B" (.ref bss)) (Fcs : Fld Z h0 s_ "java/lang/String" "coder" "B" (.int (0 : Int32))) (Vs : Arv Z h0 bss kss .byte (own_I ns) vss (.int (0 : Int32))) (hns : ns ≤ 16) (HEs : own_E0 fs ns vss) (VD : Arv Z h0 b kb .byte (32 : Int32) vb (.int (0 : Int32))) (hlb : vb.length = 32) (HD : own_E1 fb nb vb) (hd : nb + ns ≤ 16) (nbb : bss ≠ b) (gb : n0 ≤ b) (ST : own_St Z) (O : Old Z n0 h0) :
    Met l y_36 k36 4 none ws r_gb_01 #[(.ref s_), (.ref b), (.int (own_I nb)), (.int (1 : Int32))] Z h0 (Q_gb_01 Z s_ b bss kss vss ns fs kb vb nb fb h0 n0) := by
  refine MetFree.of_bodySF (plainFor_of_name pn_0) hisR ?_
  intro p e s mt args below meth cd s₁ Bd hml0 hP hK
  obtain ⟨hA, hZ, hh⟩ := hP
  have hx := Bd.exec
  have hby := Bd.bytes
  have hml : cd.maxLocals = 4 := hml0
  have hown : s.vm.findClass "java/lang/String" = some mt.cls := findClass_of_methodNamed Bd.named
  have hlk : meth.locks = false := BodyLoose.notSynchronized Bd
  have hrt := Bd.returns
  have X0 : Stand p l e r_gb_01 s mt args below meth cd s₁ [] 0 0 := Stand.of_body Bd
  have e0 : s₁.heap = h0 := by rw [← hh, Bd.state]; rfl
  have N0 := Fr.nil n0
  show Win p e below (Ends s (Q_gb_01 Z s_ b bss kss vss ns fs kb vb nb fb h0 n0) r_gb_01.cells r_gb_01.slots) s₁ (entryFrame mt args 4)
  rw [hA, ef_gb_01]
  obtain ⟨cs, u, S0, hcs, S1, hu, S2, S3, S4⟩ := id ST
  have nsb : s_ ≠ b := Exa.neArv Es VD (ow hw 5 rfl)
  refine w_aloadN X0 hx hby d36_0 rfl rfl ?_
  show Win _ _ _ _ s₁ (mkF mt 1 #[.val (.ref s_), .val (.ref b), .val (.int (own_I nb)), .val (.int (1 : Int32))] [(.ref s_)])
  obtain ⟨cq484, kq484, q484a, q484b, q484c⟩ := isOf hZ e0 Es
  obtain ⟨v484, _, ⟨T484, L484, k484, n484⟩, -, X484, ⟨Lc484, hQ484, l484, rfl, rfl⟩, st484⟩ := X0.virtualBack hx (y := y_0) (z := y_0) hown (mvT hZ (ow hw 66 rfl)) (mvT hZ (ow hw 67 rfl)) (notFace_of_selects (args := #[]) (mvT hZ (ow hw 69 rfl))) (mvT hZ (ow hw 69 rfl)) (mvT hZ (ow hw 68 rfl)) (by decide) (backOf (W := 0) (rm_coder l Z a0 hw [] s_ (0 : Int32) h0 n0 Z0 Fcs (by decide) ST O) hZ (ow hw 70 rfl) (ow hw 6 rfl) (by decide) (by decide)) q484a q484c (g := (mkF mt 1 #[.val (.ref s_), .val (.ref b), .val (.int (own_I nb)), .val (.int (1 : Int32))] [(.ref s_)])) rfl (by rw [hml]; rfl) (Steps.refl _) (argsL := []) (rest := []) (lenOf pd_0 rfl) rfl (wz rfl) (hb hby d36_1) (fun _ _ => ⟨rfl, e0, (by decide : 0 + 0 ≤ _), (by decide : 0 + 0 ≤ _)⟩)
  replace X484 : Stand p l e _ s mt args below meth cd T484 L484 0 0 := X484
  obtain ⟨rfl, Nq484, eh484⟩ := hQ484
  have N484 := own_fr (L := L484) l484 N0 Nq484
  refine Win.tr ?_ st484
  refine w_iloadN X484 hx hby d36_4 rfl ?_
  refine Win.st ?_ (fun tq kq => XS.icmpYes X484.here hx rfl (pc0 := 5) (pc' := 28) rfl (hb hby d36_5) rfl (feq (by decide : ¬ ((0 : Int32) = (1 : Int32)))).2 (by decide) (by decide) kq)
  refine w_aloadN X484 hx hby d36_28 rfl rfl ?_
  obtain ⟨T485, X485, e485, st485⟩ := getF X484 hx hZ hown (host := "") (Or.inl (ow hw 24 rfl)) Via.refl eh484 Fvs (g := (mkF mt 29 #[.val (.ref s_), .val (.ref b), .val (.int (own_I nb)), .val (.int (1 : Int32))] [(.ref s_)])) rfl rfl (hb hby d36_29)
  refine Win.st ?_ st485
  refine w_iconst X485 hx hby d36_32 ?_
  refine w_aloadN X485 hx hby d36_33 rfl rfl ?_
  refine w_iloadN X485 hx hby d36_34 rfl ?_
  refine w_aloadN X485 hx hby d36_35 rfl rfl ?_
  obtain ⟨T486, X486, e486, st486⟩ := getF X485 hx hZ hown (host := "") (Or.inl (ow hw 24 rfl)) Via.refl e485 Fvs (g := (mkF mt 36 #[.val (.ref s_), .val (.ref b), .val (.int (own_I nb)), .val (.int (1 : Int32))] [(.ref s_), (.int (own_I nb)), (.ref b), (.int (0 : Int32)), (.ref bss)])) rfl rfl (hb hby d36_36)
  refine Win.st ?_ st486
  show Win _ _ _ _ T486 (mkF mt 39 #[.val (.ref s_), .val (.ref b), .val (.int (own_I nb)), .val (.int (1 : Int32))] [(.ref bss), (.int (own_I nb)), (.ref b), (.int (0 : Int32)), (.ref bss)])
  refine Win.st ?_ (own_alen (g := (mkF mt 39 #[.val (.ref s_), .val (.ref b), .val (.int (own_I nb)), .val (.int (1 : Int32))] [(.ref bss), (.int (own_I nb)), (.ref b), (.int (0 : Int32)), (.ref bss)])) X486 hx hZ e486 Vs rfl rfl (hb hby d36_39))
  show Win _ _ _ _ T486 (mkF mt 40 #[.val (.ref s_), .val (.ref b), .val (.int (own_I nb)), .val (.int (1 : Int32))] [(.int (own_I ns)), (.int (own_I nb)), (.ref b), (.int (0 : Int32)), (.ref bss)])
  obtain ⟨v487, _, ⟨T487, L487, k487, n487⟩, -, X487, ⟨Lc487, hQ487, l487, rfl, rfl⟩, st487⟩ := Jvm.LawKit.callS X486 hx (y := y_33) hown (mvT hZ (ow hw 297 rfl)) (mvT hZ (ow hw 280 rfl)) (mvT hZ (ow hw 220 rfl)) (mvT hZ (ow hw 281 rfl)) (by decide) (backOf (W := 0) (rm_infl l Z a0 hw [] bss b kss ns vss kb vb nb ns (own_cat nb fb fs) h0 n0 Z0 Vs (Nat.le_refl _) (by omega) VD hlb hd (fun i hi => by rw [own_cat_r]; exact HEs i hi) (own_E1_congr HD fun i hi => own_cat_l hi) nbb gb ST O) hZ (ow hw 281 rfl) (ow hw 220 rfl) (by decide) (by decide)) (g := (mkF mt 40 #[.val (.ref s_), .val (.ref b), .val (.int (own_I nb)), .val (.int (1 : Int32))] [(.int (own_I ns)), (.int (own_I nb)), (.ref b), (.int (0 : Int32)), (.ref bss)])) rfl (by rw [hml]; rfl) (argsL := [(.ref bss), (.int (0 : Int32)), (.ref b), (.int (own_I nb)), (.int (own_I ns))]) (rest := []) (lenOf pd_23 rfl) rfl (wz rfl) (hb hby d36_40) (fun _ _ => ⟨rfl, e486, (by decide : 0 + 0 ≤ _), (by decide : 0 + 0 ≤ _)⟩)
  replace X487 : Stand p l e _ s mt args below meth cd T487 L487 0 0 := X487
  obtain ⟨h487, e487⟩ : ∃ z, T487.heap = z := ⟨_, rfl⟩
  rw [e487] at hQ487
  obtain ⟨rfl, Nq487, K487, vt, hl487, V487, HE487⟩ := hQ487
  have N487 := own_fr (L := L487) l487 N484 Nq487
  have K490 : Keep h0 h487 [b] := Keep.trans (Keep.refl h0 [b]) K487 (allS (Or.inl (List.mem_of_getElem? (i := 0) rfl)) all0)
  refine Win.st ?_ st487
  show Win _ _ _ _ T487 (mkF mt 43 #[.val (.ref s_), .val (.ref b), .val (.int (own_I nb)), .val (.int (1 : Int32))] [])
  exact Win.retV X487 hx hlk e487 hrt (hb hby d36_43) (by decide) (by decide) ⟨rfl, N487, K490, vt, hl487, V487, HE487⟩
abbrev k37 : ByteArray := jdk_68_method_73_code
theorem d37_0 : decode k37 0 = .ok (.aload_n 0, 1) := by decide +kernel
theorem d37_1 : decode k37 1 = .ok (.aload_n 2, 1) := by decide +kernel
theorem d37_2 : decode k37 2 = .ok (.invokevirtual 397, 3) := by decide +kernel
theorem pd_25 : parseMethodDescriptor "(Ljava/lang/String;)V" = some ⟨[(.object "java/lang/String")], none⟩ := by decide +kernel
theorem d37_5 : decode k37 5 = .ok (.aload_n 2, 1) := by decide +kernel
theorem d37_6 : decode k37 6 = .ok (.aload_n 0, 1) := by decide +kernel
theorem d37_7 : decode k37 7 = .ok (.getfield 15, 3) := by decide +kernel
theorem d37_10 : decode k37 10 = .ok (.iload_n 1, 1) := by decide +kernel
theorem d37_11 : decode k37 11 = .ok (.aload_n 0, 1) := by decide +kernel
theorem d37_12 : decode k37 12 = .ok (.getfield 22, 3) := by decide +kernel
theorem d37_15 : decode k37 15 = .ok (.invokevirtual 399, 3) := by decide +kernel
theorem pd_26 : parseMethodDescriptor "([BIB)V" = some ⟨[(.array .byte), .int, .byte], none⟩ := by decide +kernel
theorem d37_18 : decode k37 18 = .ok (.return_, 1) := by decide +kernel
abbrev y_37 : MethodName := ⟨"java/lang/AbstractStringBuilder", "putStringAt", "(ILjava/lang/String;)V"⟩
abbrev r_psa_00 : Room := { frames := 2, cells := 1, slots := 32, locals := 33 }
theorem ef_psa_00 (mt : MethodId) (a : Addr) (s_ : Addr) (nb : Nat) : entryFrame mt #[(.ref a), (.int (own_I nb)), (.ref s_)] 3 = mkF mt 0 #[.val (.ref a), .val (.int (own_I nb)), .val (.ref s_)] [] := by first | (simp [entryFrame, mkF, argsToLocals, Value.category]; done) | rfl
def Q_psa_00 (Z : State) (a : Addr) (s_ : Addr) (bf : Addr) (kv : ClassId) (vv_ : List Value) (nb : Nat) (fb : Nat → Int32) (bss : Addr) (kss : ClassId) (vss : List Value) (ns : Nat) (fs : Nat → Int32) (h0 : Heap) (n0 : Nat) (v : Option Value) (h : Heap) (L : List Loc) : Prop := v = none ∧ Fr n0 L ∧ Keep h0 h [a, bf] ∧ ∃ (t : Addr) (k : ClassId) (z : Int32) (vs : List Value) (cd : Int32), (t = bf ∨ h0.size ≤ t) ∧ n0 ≤ t ∧ Fld Z h a "java/lang/AbstractStringBuilder" "value" "[B" (.ref t) ∧ Fld Z h a "java/lang/AbstractStringBuilder" "coder" "B" (.int cd) ∧ Fld Z h a "java/lang/AbstractStringBuilder" "count" "I" (.int (own_I nb)) ∧ Fld Z h a "java/lang/AbstractStringBuilder" "maybeLatin1" "Z" (.int (0 : Int32)) ∧ Arv Z h t k .byte z vs (.int (0 : Int32)) ∧ Exa Z h t "[B" ∧ own_W cd z (nb + ns) (own_cat nb fb fs) vs
theorem rm_psa_00 (l : Launch) (Z : State) (a0 : Array Value) (hw : ∀ d ∈ tables_1, d.before a0 Z = true) (ws : List Jvm.Cond) (a : Addr) (s_ : Addr) (bf : Addr) (kv : ClassId) (vv_ : List Value) (nb : Nat) (fb : Nat → Int32) (bss : Addr) (kss : ClassId) (vss : List Value) (ns : Nat) (fs : Nat → Int32) (h0 : Heap) (n0 : Nat) (Z0 : n0 ≤ h0.size) (BE : Exa Z h0 a "java/lang/StringBuilder") (Bv : Fld Z h0 a "java/lang/AbstractStringBuilder" "value" "[B" (.ref bf)) (Bc : Fld Z h0 a "java/lang/AbstractStringBuilder" "coder" "B" (.int (0 : Int32))) (Bn : Fld Z h0 a "java/lang/AbstractStringBuilder" "count" "I" (.int (own_I nb))) (Bm : Fld Z h0 a "java/lang/AbstractStringBuilder" "maybeLatin1" "Z" (.int (0 : Int32))) (BV : Arv Z h0 bf kv .byte (16 : Int32) vv_ (.int (0 : Int32))) (BX : Exa Z h0 bf "[B") (ga : n0 ≤ a) (gv : n0 ≤ bf) (Es : Exa Z h0 s_ "java/lang/String") (Fvs : Fld Z h0 s_ "java/lang/String" "value" "[B" (.ref bss)) (Fcs : Fld Z h0 s_ "java/lang/String" "coder" "B" (.int (0 : Int32))) (Vs : Arv Z h0 bss kss .byte (own_I ns) vss (.int (0 : Int32))) (hns : ns ≤ 16) (HEs : own_E0 fs ns vss) (hlv : vv_.length = 16) (HEv : own_E0 fb nb vv_) (hd : nb + ns ≤ 16) (nbv : bss ≠ bf) (ST : own_St Z) (O : Old Z n0 h0) :
    Met l y_37 k37 3 none ws r_psa_00 #[(.ref a), (.int (own_I nb)), (.ref s_)] Z h0 (Q_psa_00 Z a s_ bf kv vv_ nb fb bss kss vss ns fs h0 n0) := by
  refine MetFree.of_bodySF (plainFor_of_name pn_1) hisR ?_
  intro p e s mt args below meth cd s₁ Bd hml0 hP hK
  obtain ⟨hA, hZ, hh⟩ := hP
  have hx := Bd.exec
  have hby := Bd.bytes
  have hml : cd.maxLocals = 3 := hml0
  have hown : s.vm.findClass "java/lang/AbstractStringBuilder" = some mt.cls := findClass_of_methodNamed Bd.named
  have hlk : meth.locks = false := BodyLoose.notSynchronized Bd
  have hrt := Bd.returns
  have X0 : Stand p l e r_psa_00 s mt args below meth cd s₁ [] 0 0 := Stand.of_body Bd
  have e0 : s₁.heap = h0 := by rw [← hh, Bd.state]; rfl
  have N0 := Fr.nil n0
  show Win p e below (Ends s (Q_psa_00 Z a s_ bf kv vv_ nb fb bss kss vss ns fs h0 n0) r_psa_00.cells r_psa_00.slots) s₁ (entryFrame mt args 3)
  rw [hA, ef_psa_00]
  obtain ⟨cs, u, S0, hcs, S1, hu, S2, S3, S4⟩ := id ST
  have nva : a ≠ bf := Exa.neArv BE BV (ow hw 34 rfl)
  have nsa : s_ ≠ a := own_exne Es BE (by decide)
  have nba : a ≠ bss := Exa.neArv BE Vs (ow hw 34 rfl)
  have nsv : s_ ≠ bf := Exa.neArv Es BV (ow hw 5 rfl)
  refine w_aloadN X0 hx hby d37_0 rfl rfl ?_
  refine w_aloadN X0 hx hby d37_1 rfl rfl ?_
  show Win _ _ _ _ s₁ (mkF mt 2 #[.val (.ref a), .val (.int (own_I nb)), .val (.ref s_)] [(.ref s_), (.ref a)])
  obtain ⟨cq491, q491, q491'⟩ := BE.cell
  obtain ⟨v491, _, ⟨T491, L491, k491, n491⟩, -, X491, ⟨Lc491, hQ491, l491, rfl, rfl⟩, st491⟩ := X0.privateBack hx (y := y_35) hown (mvT hZ (ow hw 84 rfl)) (mvT hZ (ow hw 85 rfl)) (own_selC (mvT hZ (ow hw 87 rfl)) (Cond.privateMethod_at (mvP hZ (ow hw 86 rfl) (args := #[]))) (mvT hZ (ow hw 85 rfl)) (by decide)) (Cond.privateMethod_at (mvP hZ (ow hw 86 rfl) (args := #[]))) (mvT hZ (ow hw 88 rfl)) (by decide) (backOf (W := 0) (rm_iin_00 l Z a0 hw [] a s_ h0 n0 Z0 BE Bc Es Fcs ST O) hZ (ow hw 88 rfl) (ow hw 43 rfl) (by decide) (by decide)) (g := (mkF mt 2 #[.val (.ref a), .val (.int (own_I nb)), .val (.ref s_)] [(.ref s_), (.ref a)])) rfl (by rw [hml]; rfl) (Steps.refl _) (a := a) (by rw [e0]; exact q491) q491' (argsL := [(.ref s_)]) (rest := []) (lenOf pd_25 rfl) rfl (wz rfl) (hb hby d37_2) (fun _ _ => ⟨rfl, e0, (by decide : 0 + 0 ≤ _), (by decide : 0 + 0 ≤ _)⟩)
  replace X491 : Stand p l e _ s mt args below meth cd T491 L491 0 0 := X491
  obtain ⟨rfl, Nq491, eh491⟩ := hQ491
  have N491 := own_fr (L := L491) l491 N0 Nq491
  refine Win.tr ?_ st491
  refine w_aloadN X491 hx hby d37_5 rfl rfl ?_
  refine w_aloadN X491 hx hby d37_6 rfl rfl ?_
  obtain ⟨T492, X492, e492, st492⟩ := getF X491 hx hZ hown (host := "") (Or.inl (ow hw 47 rfl)) Via.refl eh491 Bv (g := (mkF mt 7 #[.val (.ref a), .val (.int (own_I nb)), .val (.ref s_)] [(.ref a), (.ref s_)])) rfl rfl (hb hby d37_7)
  refine Win.st ?_ st492
  refine w_iloadN X492 hx hby d37_10 rfl ?_
  refine w_aloadN X492 hx hby d37_11 rfl rfl ?_
  obtain ⟨T493, X493, e493, st493⟩ := getF X492 hx hZ hown (host := "") (Or.inl (ow hw 49 rfl)) Via.refl e492 Bc (g := (mkF mt 12 #[.val (.ref a), .val (.int (own_I nb)), .val (.ref s_)] [(.ref a), (.int (own_I nb)), (.ref bf), (.ref s_)])) rfl rfl (hb hby d37_12)
  refine Win.st ?_ st493
  show Win _ _ _ _ T493 (mkF mt 15 #[.val (.ref a), .val (.int (own_I nb)), .val (.ref s_)] [(.int (0 : Int32)), (.int (own_I nb)), (.ref bf), (.ref s_)])
  obtain ⟨cq494, kq494, q494a, q494b, q494c⟩ := isOf hZ e493 Es
  obtain ⟨v494, _, ⟨T494, L494, k494, n494⟩, -, X494, ⟨Lc494, hQ494, l494, rfl, rfl⟩, st494⟩ := X493.virtualBack hx (y := y_36) (z := y_36) hown (mvT hZ (ow hw 90 rfl)) (mvT hZ (ow hw 91 rfl)) (notFace_of_selects (args := #[]) (mvT hZ (ow hw 93 rfl))) (mvT hZ (ow hw 93 rfl)) (mvT hZ (ow hw 92 rfl)) (by decide) (backOf (W := 0) (rm_gb_00 l Z a0 hw [] s_ bf bss kss vss ns fs kv vv_ nb fb h0 n0 Z0 Es Fvs Fcs Vs hns HEs BV hlv HEv hd nbv gv ST O) hZ (ow hw 94 rfl) (ow hw 6 rfl) (by decide) (by decide)) q494a q494c (g := (mkF mt 15 #[.val (.ref a), .val (.int (own_I nb)), .val (.ref s_)] [(.int (0 : Int32)), (.int (own_I nb)), (.ref bf), (.ref s_)])) rfl (by rw [hml]; rfl) (Steps.refl _) (argsL := [(.ref bf), (.int (own_I nb)), (.int (0 : Int32))]) (rest := []) (lenOf pd_26 rfl) rfl (wz rfl) (hb hby d37_15) (fun _ _ => ⟨rfl, e493, (by decide : 0 + 0 ≤ _), (by decide : 0 + 0 ≤ _)⟩)
  replace X494 : Stand p l e _ s mt args below meth cd T494 L494 0 0 := X494
  obtain ⟨h494, e494⟩ : ∃ z, T494.heap = z := ⟨_, rfl⟩
  rw [e494] at hQ494
  obtain ⟨rfl, Nq494, K494, vt2, hl494, V494, HE494⟩ := hQ494
  have N494 := own_fr (L := L494) l494 N491 Nq494
  have f495_32 := Bv.keep K494 (ninS nva nin0)
  have f495_33 := Bc.keep K494 (ninS nva nin0)
  have f495_34 := Bn.keep K494 (ninS nva nin0)
  have f495_35 := Bm.keep K494 (ninS nva nin0)
  have f495_36 := BX.keep K494
  have K497 : Keep h0 h494 [a, bf] := Keep.trans (Keep.refl h0 [a, bf]) K494 (allS (Or.inl (List.mem_of_getElem? (i := 1) rfl)) all0)
  refine Win.tr ?_ st494
  show Win _ _ _ _ T494 (mkF mt 18 #[.val (.ref a), .val (.int (own_I nb)), .val (.ref s_)] [])
  exact Win.retV X494 hx hlk e494 hrt (hb hby d37_18) (by decide) (by decide) ⟨rfl, N494, K497, bf, _, _, _, _, Or.inl rfl, gv, f495_32, f495_33, f495_34, f495_35, V494, f495_36, ⟨hd, Or.inl ⟨rfl, rfl, hl494, HE494⟩⟩⟩
abbrev r_psa_11 : Room := { frames := 2, cells := 1, slots := 32, locals := 33 }
theorem ef_psa_11 (mt : MethodId) (a : Addr) (s_ : Addr) (nb : Nat) : entryFrame mt #[(.ref a), (.int (own_I nb)), (.ref s_)] 3 = mkF mt 0 #[.val (.ref a), .val (.int (own_I nb)), .val (.ref s_)] [] := by first | (simp [entryFrame, mkF, argsToLocals, Value.category]; done) | rfl
def Q_psa_11 (Z : State) (a : Addr) (s_ : Addr) (bf : Addr) (kv : ClassId) (vv_ : List Value) (nb : Nat) (fb : Nat → Int32) (bss : Addr) (kss : ClassId) (vss : List Value) (ns : Nat) (fs : Nat → Int32) (h0 : Heap) (n0 : Nat) (v : Option Value) (h : Heap) (L : List Loc) : Prop := v = none ∧ Fr n0 L ∧ Keep h0 h [a, bf] ∧ ∃ (t : Addr) (k : ClassId) (z : Int32) (vs : List Value) (cd : Int32), (t = bf ∨ h0.size ≤ t) ∧ n0 ≤ t ∧ Fld Z h a "java/lang/AbstractStringBuilder" "value" "[B" (.ref t) ∧ Fld Z h a "java/lang/AbstractStringBuilder" "coder" "B" (.int cd) ∧ Fld Z h a "java/lang/AbstractStringBuilder" "count" "I" (.int (own_I nb)) ∧ Fld Z h a "java/lang/AbstractStringBuilder" "maybeLatin1" "Z" (.int (0 : Int32)) ∧ Arv Z h t k .byte z vs (.int (0 : Int32)) ∧ Exa Z h t "[B" ∧ own_W cd z (nb + ns) (own_cat nb fb fs) vs
theorem rm_psa_11 (l : Launch) (Z : State) (a0 : Array Value) (hw : ∀ d ∈ tables_1, d.before a0 Z = true) (ws : List Jvm.Cond) (a : Addr) (s_ : Addr) (bf : Addr) (kv : ClassId) (vv_ : List Value) (nb : Nat) (fb : Nat → Int32) (bss : Addr) (kss : ClassId) (vss : List Value) (ns : Nat) (fs : Nat → Int32) (h0 : Heap) (n0 : Nat) (Z0 : n0 ≤ h0.size) (BE : Exa Z h0 a "java/lang/StringBuilder") (Bv : Fld Z h0 a "java/lang/AbstractStringBuilder" "value" "[B" (.ref bf)) (Bc : Fld Z h0 a "java/lang/AbstractStringBuilder" "coder" "B" (.int (1 : Int32))) (Bn : Fld Z h0 a "java/lang/AbstractStringBuilder" "count" "I" (.int (own_I nb))) (Bm : Fld Z h0 a "java/lang/AbstractStringBuilder" "maybeLatin1" "Z" (.int (0 : Int32))) (BV : Arv Z h0 bf kv .byte (32 : Int32) vv_ (.int (0 : Int32))) (BX : Exa Z h0 bf "[B") (ga : n0 ≤ a) (gv : n0 ≤ bf) (Es : Exa Z h0 s_ "java/lang/String") (Fvs : Fld Z h0 s_ "java/lang/String" "value" "[B" (.ref bss)) (Fcs : Fld Z h0 s_ "java/lang/String" "coder" "B" (.int (1 : Int32))) (Vs : Arv Z h0 bss kss .byte (own_I (2 * ns)) vss (.int (0 : Int32))) (hns : ns ≤ 16) (HEs : own_E1 fs ns vss) (hlv : vv_.length = 32) (HEv : own_E1 fb nb vv_) (hd : nb + ns ≤ 16) (nbv : bss ≠ bf) (ST : own_St Z) (O : Old Z n0 h0) :
    Met l y_37 k37 3 none ws r_psa_11 #[(.ref a), (.int (own_I nb)), (.ref s_)] Z h0 (Q_psa_11 Z a s_ bf kv vv_ nb fb bss kss vss ns fs h0 n0) := by
  refine MetFree.of_bodySF (plainFor_of_name pn_1) hisR ?_
  intro p e s mt args below meth cd s₁ Bd hml0 hP hK
  obtain ⟨hA, hZ, hh⟩ := hP
  have hx := Bd.exec
  have hby := Bd.bytes
  have hml : cd.maxLocals = 3 := hml0
  have hown : s.vm.findClass "java/lang/AbstractStringBuilder" = some mt.cls := findClass_of_methodNamed Bd.named
  have hlk : meth.locks = false := BodyLoose.notSynchronized Bd
  have hrt := Bd.returns
  have X0 : Stand p l e r_psa_11 s mt args below meth cd s₁ [] 0 0 := Stand.of_body Bd
  have e0 : s₁.heap = h0 := by rw [← hh, Bd.state]; rfl
  have N0 := Fr.nil n0
  show Win p e below (Ends s (Q_psa_11 Z a s_ bf kv vv_ nb fb bss kss vss ns fs h0 n0) r_psa_11.cells r_psa_11.slots) s₁ (entryFrame mt args 3)
  rw [hA, ef_psa_11]
  obtain ⟨cs, u, S0, hcs, S1, hu, S2, S3, S4⟩ := id ST
  have nva : a ≠ bf := Exa.neArv BE BV (ow hw 34 rfl)
  have nsa : s_ ≠ a := own_exne Es BE (by decide)
  have nba : a ≠ bss := Exa.neArv BE Vs (ow hw 34 rfl)
  have nsv : s_ ≠ bf := Exa.neArv Es BV (ow hw 5 rfl)
  refine w_aloadN X0 hx hby d37_0 rfl rfl ?_
  refine w_aloadN X0 hx hby d37_1 rfl rfl ?_
  show Win _ _ _ _ s₁ (mkF mt 2 #[.val (.ref a), .val (.int (own_I nb)), .val (.ref s_)] [(.ref s_), (.ref a)])
  obtain ⟨cq498, q498, q498'⟩ := BE.cell
  obtain ⟨v498, _, ⟨T498, L498, k498, n498⟩, -, X498, ⟨Lc498, hQ498, l498, rfl, rfl⟩, st498⟩ := X0.privateBack hx (y := y_35) hown (mvT hZ (ow hw 84 rfl)) (mvT hZ (ow hw 85 rfl)) (own_selC (mvT hZ (ow hw 87 rfl)) (Cond.privateMethod_at (mvP hZ (ow hw 86 rfl) (args := #[]))) (mvT hZ (ow hw 85 rfl)) (by decide)) (Cond.privateMethod_at (mvP hZ (ow hw 86 rfl) (args := #[]))) (mvT hZ (ow hw 88 rfl)) (by decide) (backOf (W := 0) (rm_iin_11 l Z a0 hw [] a s_ h0 n0 Z0 BE Bc Es Fcs ST O) hZ (ow hw 88 rfl) (ow hw 43 rfl) (by decide) (by decide)) (g := (mkF mt 2 #[.val (.ref a), .val (.int (own_I nb)), .val (.ref s_)] [(.ref s_), (.ref a)])) rfl (by rw [hml]; rfl) (Steps.refl _) (a := a) (by rw [e0]; exact q498) q498' (argsL := [(.ref s_)]) (rest := []) (lenOf pd_25 rfl) rfl (wz rfl) (hb hby d37_2) (fun _ _ => ⟨rfl, e0, (by decide : 0 + 0 ≤ _), (by decide : 0 + 0 ≤ _)⟩)
  replace X498 : Stand p l e _ s mt args below meth cd T498 L498 0 0 := X498
  obtain ⟨rfl, Nq498, eh498⟩ := hQ498
  have N498 := own_fr (L := L498) l498 N0 Nq498
  refine Win.tr ?_ st498
  refine w_aloadN X498 hx hby d37_5 rfl rfl ?_
  refine w_aloadN X498 hx hby d37_6 rfl rfl ?_
  obtain ⟨T499, X499, e499, st499⟩ := getF X498 hx hZ hown (host := "") (Or.inl (ow hw 47 rfl)) Via.refl eh498 Bv (g := (mkF mt 7 #[.val (.ref a), .val (.int (own_I nb)), .val (.ref s_)] [(.ref a), (.ref s_)])) rfl rfl (hb hby d37_7)
  refine Win.st ?_ st499
  refine w_iloadN X499 hx hby d37_10 rfl ?_
  refine w_aloadN X499 hx hby d37_11 rfl rfl ?_
  obtain ⟨T500, X500, e500, st500⟩ := getF X499 hx hZ hown (host := "") (Or.inl (ow hw 49 rfl)) Via.refl e499 Bc (g := (mkF mt 12 #[.val (.ref a), .val (.int (own_I nb)), .val (.ref s_)] [(.ref a), (.int (own_I nb)), (.ref bf), (.ref s_)])) rfl rfl (hb hby d37_12)
  refine Win.st ?_ st500
  show Win _ _ _ _ T500 (mkF mt 15 #[.val (.ref a), .val (.int (own_I nb)), .val (.ref s_)] [(.int (1 : Int32)), (.int (own_I nb)), (.ref bf), (.ref s_)])
  obtain ⟨cq501, kq501, q501a, q501b, q501c⟩ := isOf hZ e500 Es
  obtain ⟨v501, _, ⟨T501, L501, k501, n501⟩, -, X501, ⟨Lc501, hQ501, l501, rfl, rfl⟩, st501⟩ := X500.virtualBack hx (y := y_36) (z := y_36) hown (mvT hZ (ow hw 90 rfl)) (mvT hZ (ow hw 91 rfl)) (notFace_of_selects (args := #[]) (mvT hZ (ow hw 93 rfl))) (mvT hZ (ow hw 93 rfl)) (mvT hZ (ow hw 92 rfl)) (by decide) (backOf (W := 0) (rm_gb_11 l Z a0 hw [] s_ bf bss kss vss ns fs kv vv_ nb fb h0 n0 Z0 Es Fvs Fcs Vs hns HEs BV hlv HEv hd nbv gv ST O) hZ (ow hw 94 rfl) (ow hw 6 rfl) (by decide) (by decide)) q501a q501c (g := (mkF mt 15 #[.val (.ref a), .val (.int (own_I nb)), .val (.ref s_)] [(.int (1 : Int32)), (.int (own_I nb)), (.ref bf), (.ref s_)])) rfl (by rw [hml]; rfl) (Steps.refl _) (argsL := [(.ref bf), (.int (own_I nb)), (.int (1 : Int32))]) (rest := []) (lenOf pd_26 rfl) rfl (wz rfl) (hb hby d37_15) (fun _ _ => ⟨rfl, e500, (by decide : 0 + 0 ≤ _), (by decide : 0 + 0 ≤ _)⟩)
  replace X501 : Stand p l e _ s mt args below meth cd T501 L501 0 0 := X501
  obtain ⟨h501, e501⟩ : ∃ z, T501.heap = z := ⟨_, rfl⟩
  rw [e501] at hQ501
  obtain ⟨rfl, Nq501, K501, vt2, hl501, V501, HE501⟩ := hQ501
  have N501 := own_fr (L := L501) l501 N498 Nq501
  have f502_32 := Bv.keep K501 (ninS nva nin0)
  have f502_33 := Bc.keep K501 (ninS nva nin0)
  have f502_34 := Bn.keep K501 (ninS nva nin0)
  have f502_35 := Bm.keep K501 (ninS nva nin0)
  have f502_36 := BX.keep K501
  have K504 : Keep h0 h501 [a, bf] := Keep.trans (Keep.refl h0 [a, bf]) K501 (allS (Or.inl (List.mem_of_getElem? (i := 1) rfl)) all0)
  refine Win.tr ?_ st501
  show Win _ _ _ _ T501 (mkF mt 18 #[.val (.ref a), .val (.int (own_I nb)), .val (.ref s_)] [])
  exact Win.retV X501 hx hlk e501 hrt (hb hby d37_18) (by decide) (by decide) ⟨rfl, N501, K504, bf, _, _, _, _, Or.inl rfl, gv, f502_32, f502_33, f502_34, f502_35, V501, f502_36, ⟨hd, Or.inr ⟨rfl, rfl, hl501, HE501⟩⟩⟩
abbrev r_psa_01 : Room := { frames := 7, cells := 1, slots := 32, locals := 102 }
theorem ef_psa_01 (mt : MethodId) (a : Addr) (s_ : Addr) (nb : Nat) : entryFrame mt #[(.ref a), (.int (own_I nb)), (.ref s_)] 3 = mkF mt 0 #[.val (.ref a), .val (.int (own_I nb)), .val (.ref s_)] [] := by first | (simp [entryFrame, mkF, argsToLocals, Value.category]; done) | rfl
def Q_psa_01 (Z : State) (a : Addr) (s_ : Addr) (bf : Addr) (kv : ClassId) (vv_ : List Value) (nb : Nat) (fb : Nat → Int32) (bss : Addr) (kss : ClassId) (vss : List Value) (ns : Nat) (fs : Nat → Int32) (h0 : Heap) (n0 : Nat) (v : Option Value) (h : Heap) (L : List Loc) : Prop := v = none ∧ Fr n0 L ∧ Keep h0 h [a, bf] ∧ ∃ (t : Addr) (k : ClassId) (z : Int32) (vs : List Value) (cd : Int32), (t = bf ∨ h0.size ≤ t) ∧ n0 ≤ t ∧ Fld Z h a "java/lang/AbstractStringBuilder" "value" "[B" (.ref t) ∧ Fld Z h a "java/lang/AbstractStringBuilder" "coder" "B" (.int cd) ∧ Fld Z h a "java/lang/AbstractStringBuilder" "count" "I" (.int (own_I nb)) ∧ Fld Z h a "java/lang/AbstractStringBuilder" "maybeLatin1" "Z" (.int (0 : Int32)) ∧ Arv Z h t k .byte z vs (.int (0 : Int32)) ∧ Exa Z h t "[B" ∧ own_W cd z (nb + ns) (own_cat nb fb fs) vs
theorem rm_psa_01 (l : Launch) (Z : State) (a0 : Array Value) (hw : ∀ d ∈ tables_1, d.before a0 Z = true) (ws : List Jvm.Cond) (a : Addr) (s_ : Addr) (bf : Addr) (kv : ClassId) (vv_ : List Value) (nb : Nat) (fb : Nat → Int32) (bss : Addr) (kss : ClassId) (vss : List Value) (ns : Nat) (fs : Nat → Int32) (h0 : Heap) (n0 : Nat) (Z0 : n0 ≤ h0.size) (BE : Exa Z h0 a "java/lang/StringBuilder") (Bv : Fld Z h0 a "java/lang/AbstractStringBuilder" "value" "[B" (.ref bf)) (Bc : Fld Z h0 a "java/lang/AbstractStringBuilder" "coder" "B" (.int (0 : Int32))) (Bn : Fld Z h0 a "java/lang/AbstractStringBuilder" "count" "I" (.int (own_I nb))) (Bm : Fld Z h0 a "java/lang/AbstractStringBuilder" "maybeLatin1" "Z" (.int (0 : Int32))) (BV : Arv Z h0 bf kv .byte (16 : Int32) vv_ (.int (0 : Int32))) (BX : Exa Z h0 bf "[B") (ga : n0 ≤ a) (gv : n0 ≤ bf) (Es : Exa Z h0 s_ "java/lang/String") (Fvs : Fld Z h0 s_ "java/lang/String" "value" "[B" (.ref bss)) (Fcs : Fld Z h0 s_ "java/lang/String" "coder" "B" (.int (1 : Int32))) (Vs : Arv Z h0 bss kss .byte (own_I (2 * ns)) vss (.int (0 : Int32))) (hns : ns ≤ 16) (HEs : own_E1 fs ns vss) (hlv : vv_.length = 16) (HEv : own_E0 fb nb vv_) (hd : nb + ns ≤ 16) (nbv : bss ≠ bf) (ST : own_St Z) (O : Old Z n0 h0) :
    Met l y_37 k37 3 none ws r_psa_01 #[(.ref a), (.int (own_I nb)), (.ref s_)] Z h0 (Q_psa_01 Z a s_ bf kv vv_ nb fb bss kss vss ns fs h0 n0) := by
  refine MetFree.of_bodySF (plainFor_of_name pn_1) hisR ?_
  intro p e s mt args below meth cd s₁ Bd hml0 hP hK
  obtain ⟨hA, hZ, hh⟩ := hP
  have hx := Bd.exec
  have hby := Bd.bytes
  have hml : cd.maxLocals = 3 := hml0
  have hown : s.vm.findClass "java/lang/AbstractStringBuilder" = some mt.cls := findClass_of_methodNamed Bd.named
  have hlk : meth.locks = false := BodyLoose.notSynchronized Bd
  have hrt := Bd.returns
  have X0 : Stand p l e r_psa_01 s mt args below meth cd s₁ [] 0 0 := Stand.of_body Bd
  have e0 : s₁.heap = h0 := by rw [← hh, Bd.state]; rfl
  have N0 := Fr.nil n0
  show Win p e below (Ends s (Q_psa_01 Z a s_ bf kv vv_ nb fb bss kss vss ns fs h0 n0) r_psa_01.cells r_psa_01.slots) s₁ (entryFrame mt args 3)
  rw [hA, ef_psa_01]
  obtain ⟨cs, u, S0, hcs, S1, hu, S2, S3, S4⟩ := id ST
  have nva : a ≠ bf := Exa.neArv BE BV (ow hw 34 rfl)
  have nsa : s_ ≠ a := own_exne Es BE (by decide)
  have nba : a ≠ bss := Exa.neArv BE Vs (ow hw 34 rfl)
  have nsv : s_ ≠ bf := Exa.neArv Es BV (ow hw 5 rfl)
  refine w_aloadN X0 hx hby d37_0 rfl rfl ?_
  refine w_aloadN X0 hx hby d37_1 rfl rfl ?_
  show Win _ _ _ _ s₁ (mkF mt 2 #[.val (.ref a), .val (.int (own_I nb)), .val (.ref s_)] [(.ref s_), (.ref a)])
  obtain ⟨cq505, q505, q505'⟩ := BE.cell
  obtain ⟨v505, _, ⟨T505, L505, k505, n505⟩, -, X505, ⟨Lc505, hQ505, l505, rfl, rfl⟩, st505⟩ := X0.privateBack hx (y := y_35) hown (mvT hZ (ow hw 84 rfl)) (mvT hZ (ow hw 85 rfl)) (own_selC (mvT hZ (ow hw 87 rfl)) (Cond.privateMethod_at (mvP hZ (ow hw 86 rfl) (args := #[]))) (mvT hZ (ow hw 85 rfl)) (by decide)) (Cond.privateMethod_at (mvP hZ (ow hw 86 rfl) (args := #[]))) (mvT hZ (ow hw 88 rfl)) (by decide) (backOf (W := 0) (rm_iin_01 l Z a0 hw [] a s_ bf kv vv_ nb fb h0 n0 Z0 BE Bv Bc Bn Bm BV BX ga gv (by omega) HEv Es Fcs ST O) hZ (ow hw 88 rfl) (ow hw 43 rfl) (by decide) (by decide)) (g := (mkF mt 2 #[.val (.ref a), .val (.int (own_I nb)), .val (.ref s_)] [(.ref s_), (.ref a)])) rfl (by rw [hml]; rfl) (Steps.refl _) (a := a) (by rw [e0]; exact q505) q505' (argsL := [(.ref s_)]) (rest := []) (lenOf pd_25 rfl) rfl (wz rfl) (hb hby d37_2) (fun _ _ => ⟨rfl, e0, (by decide : 0 + 1 ≤ _), (by decide : 0 + 32 ≤ _)⟩)
  replace X505 : Stand p l e _ s mt args below meth cd T505 L505 1 32 := X505
  obtain ⟨h505, e505⟩ : ∃ z, T505.heap = z := ⟨_, rfl⟩
  rw [e505] at hQ505
  obtain ⟨rfl, Nq505, K505, tt, kt, vt, zt505, gt505, bv505, bc505, bn505, bm505, bV505, bX505, hl505, HE505⟩ := hQ505
  have N505 := own_fr (L := L505) l505 N0 Nq505
  have f506_15 := O.keep K505 (allS ga all0)
  have f506_17 := Es.keep K505
  have f506_18 := Fvs.keep K505 (ninS nsa nin0)
  have f506_19 := Fcs.keep K505 (ninS nsa nin0)
  have f506_20 := Vs.keep K505 (ninS (Ne.symm nba) nin0)
  have Z507 : n0 ≤ h505.size := Nat.le_trans Z0 K505.1
  have K508 : Keep h0 h505 [a, bf] := Keep.trans (Keep.refl h0 [a, bf]) K505 (allS (Or.inl (List.mem_of_getElem? (i := 0) rfl)) all0)
  have ne509 : a ≠ tt := Nat.ne_of_lt (Nat.lt_of_lt_of_le BE.lt zt505)
  have ne512 : bss ≠ tt := Nat.ne_of_lt (Nat.lt_of_lt_of_le Vs.lt zt505)
  refine Win.tr ?_ st505
  refine w_aloadN X505 hx hby d37_5 rfl rfl ?_
  refine w_aloadN X505 hx hby d37_6 rfl rfl ?_
  obtain ⟨T513, X513, e513, st513⟩ := getF X505 hx hZ hown (host := "") (Or.inl (ow hw 47 rfl)) Via.refl e505 bv505 (g := (mkF mt 7 #[.val (.ref a), .val (.int (own_I nb)), .val (.ref s_)] [(.ref a), (.ref s_)])) rfl rfl (hb hby d37_7)
  refine Win.st ?_ st513
  refine w_iloadN X513 hx hby d37_10 rfl ?_
  refine w_aloadN X513 hx hby d37_11 rfl rfl ?_
  obtain ⟨T514, X514, e514, st514⟩ := getF X513 hx hZ hown (host := "") (Or.inl (ow hw 49 rfl)) Via.refl e513 bc505 (g := (mkF mt 12 #[.val (.ref a), .val (.int (own_I nb)), .val (.ref s_)] [(.ref a), (.int (own_I nb)), (.ref tt), (.ref s_)])) rfl rfl (hb hby d37_12)
  refine Win.st ?_ st514
  show Win _ _ _ _ T514 (mkF mt 15 #[.val (.ref a), .val (.int (own_I nb)), .val (.ref s_)] [(.int (1 : Int32)), (.int (own_I nb)), (.ref tt), (.ref s_)])
  obtain ⟨cq515, kq515, q515a, q515b, q515c⟩ := isOf hZ e514 f506_17
  obtain ⟨v515, _, ⟨T515, L515, k515, n515⟩, -, X515, ⟨Lc515, hQ515, l515, rfl, rfl⟩, st515⟩ := X514.virtualBack hx (y := y_36) (z := y_36) hown (mvT hZ (ow hw 90 rfl)) (mvT hZ (ow hw 91 rfl)) (notFace_of_selects (args := #[]) (mvT hZ (ow hw 93 rfl))) (mvT hZ (ow hw 93 rfl)) (mvT hZ (ow hw 92 rfl)) (by decide) (backOf (W := 0) (rm_gb_11 l Z a0 hw [] s_ tt bss kss vss ns fs kt vt nb fb h505 n0 Z507 f506_17 f506_18 f506_19 f506_20 hns HEs bV505 hl505 HE505 hd ne512 gt505 ST f506_15) hZ (ow hw 94 rfl) (ow hw 6 rfl) (by decide) (by decide)) q515a q515c (g := (mkF mt 15 #[.val (.ref a), .val (.int (own_I nb)), .val (.ref s_)] [(.int (1 : Int32)), (.int (own_I nb)), (.ref tt), (.ref s_)])) rfl (by rw [hml]; rfl) (Steps.refl _) (argsL := [(.ref tt), (.int (own_I nb)), (.int (1 : Int32))]) (rest := []) (lenOf pd_26 rfl) rfl (wz rfl) (hb hby d37_15) (fun _ _ => ⟨rfl, e514, (by decide : 1 + 0 ≤ _), (by decide : 32 + 0 ≤ _)⟩)
  replace X515 : Stand p l e _ s mt args below meth cd T515 L515 1 32 := X515
  obtain ⟨h515, e515⟩ : ∃ z, T515.heap = z := ⟨_, rfl⟩
  rw [e515] at hQ515
  obtain ⟨rfl, Nq515, K515, vt2, hl515, V515, HE515⟩ := hQ515
  have N515 := own_fr (L := L515) l515 N505 Nq515
  have f516_50 := bv505.keep K515 (ninS ne509 nin0)
  have f516_51 := bc505.keep K515 (ninS ne509 nin0)
  have f516_52 := bn505.keep K515 (ninS ne509 nin0)
  have f516_53 := bm505.keep K515 (ninS ne509 nin0)
  have f516_54 := bX505.keep K515
  have K518 : Keep h0 h515 [a, bf] := Keep.trans K508 K515 (allS (Or.inr zt505) all0)
  refine Win.tr ?_ st515
  show Win _ _ _ _ T515 (mkF mt 18 #[.val (.ref a), .val (.int (own_I nb)), .val (.ref s_)] [])
  exact Win.retV X515 hx hlk e515 hrt (hb hby d37_18) (by decide) (by decide) ⟨rfl, N515, K518, tt, _, _, _, _, Or.inr zt505, gt505, f516_50, f516_51, f516_52, f516_53, V515, f516_54, ⟨hd, Or.inr ⟨rfl, rfl, hl515, HE515⟩⟩⟩
abbrev r_psa_10 : Room := { frames := 6, cells := 1, slots := 32, locals := 91 }
theorem ef_psa_10 (mt : MethodId) (a : Addr) (s_ : Addr) (nb : Nat) : entryFrame mt #[(.ref a), (.int (own_I nb)), (.ref s_)] 3 = mkF mt 0 #[.val (.ref a), .val (.int (own_I nb)), .val (.ref s_)] [] := by first | (simp [entryFrame, mkF, argsToLocals, Value.category]; done) | rfl
def Q_psa_10 (Z : State) (a : Addr) (s_ : Addr) (bf : Addr) (kv : ClassId) (vv_ : List Value) (nb : Nat) (fb : Nat → Int32) (bss : Addr) (kss : ClassId) (vss : List Value) (ns : Nat) (fs : Nat → Int32) (h0 : Heap) (n0 : Nat) (v : Option Value) (h : Heap) (L : List Loc) : Prop := v = none ∧ Fr n0 L ∧ Keep h0 h [a, bf] ∧ ∃ (t : Addr) (k : ClassId) (z : Int32) (vs : List Value) (cd : Int32), (t = bf ∨ h0.size ≤ t) ∧ n0 ≤ t ∧ Fld Z h a "java/lang/AbstractStringBuilder" "value" "[B" (.ref t) ∧ Fld Z h a "java/lang/AbstractStringBuilder" "coder" "B" (.int cd) ∧ Fld Z h a "java/lang/AbstractStringBuilder" "count" "I" (.int (own_I nb)) ∧ Fld Z h a "java/lang/AbstractStringBuilder" "maybeLatin1" "Z" (.int (0 : Int32)) ∧ Arv Z h t k .byte z vs (.int (0 : Int32)) ∧ Exa Z h t "[B" ∧ own_W cd z (nb + ns) (own_cat nb fb fs) vs
theorem rm_psa_10 (l : Launch) (Z : State) (a0 : Array Value) (hw : ∀ d ∈ tables_1, d.before a0 Z = true) (ws : List Jvm.Cond) (a : Addr) (s_ : Addr) (bf : Addr) (kv : ClassId) (vv_ : List Value) (nb : Nat) (fb : Nat → Int32) (bss : Addr) (kss : ClassId) (vss : List Value) (ns : Nat) (fs : Nat → Int32) (h0 : Heap) (n0 : Nat) (Z0 : n0 ≤ h0.size) (BE : Exa Z h0 a "java/lang/StringBuilder") (Bv : Fld Z h0 a "java/lang/AbstractStringBuilder" "value" "[B" (.ref bf)) (Bc : Fld Z h0 a "java/lang/AbstractStringBuilder" "coder" "B" (.int (1 : Int32))) (Bn : Fld Z h0 a "java/lang/AbstractStringBuilder" "count" "I" (.int (own_I nb))) (Bm : Fld Z h0 a "java/lang/AbstractStringBuilder" "maybeLatin1" "Z" (.int (0 : Int32))) (BV : Arv Z h0 bf kv .byte (32 : Int32) vv_ (.int (0 : Int32))) (BX : Exa Z h0 bf "[B") (ga : n0 ≤ a) (gv : n0 ≤ bf) (Es : Exa Z h0 s_ "java/lang/String") (Fvs : Fld Z h0 s_ "java/lang/String" "value" "[B" (.ref bss)) (Fcs : Fld Z h0 s_ "java/lang/String" "coder" "B" (.int (0 : Int32))) (Vs : Arv Z h0 bss kss .byte (own_I ns) vss (.int (0 : Int32))) (hns : ns ≤ 16) (HEs : own_E0 fs ns vss) (hlv : vv_.length = 32) (HEv : own_E1 fb nb vv_) (hd : nb + ns ≤ 16) (nbv : bss ≠ bf) (ST : own_St Z) (O : Old Z n0 h0) :
    Met l y_37 k37 3 none ws r_psa_10 #[(.ref a), (.int (own_I nb)), (.ref s_)] Z h0 (Q_psa_10 Z a s_ bf kv vv_ nb fb bss kss vss ns fs h0 n0) := by
  refine MetFree.of_bodySF (plainFor_of_name pn_1) hisR ?_
  intro p e s mt args below meth cd s₁ Bd hml0 hP hK
  obtain ⟨hA, hZ, hh⟩ := hP
  have hx := Bd.exec
  have hby := Bd.bytes
  have hml : cd.maxLocals = 3 := hml0
  have hown : s.vm.findClass "java/lang/AbstractStringBuilder" = some mt.cls := findClass_of_methodNamed Bd.named
  have hlk : meth.locks = false := BodyLoose.notSynchronized Bd
  have hrt := Bd.returns
  have X0 : Stand p l e r_psa_10 s mt args below meth cd s₁ [] 0 0 := Stand.of_body Bd
  have e0 : s₁.heap = h0 := by rw [← hh, Bd.state]; rfl
  have N0 := Fr.nil n0
  show Win p e below (Ends s (Q_psa_10 Z a s_ bf kv vv_ nb fb bss kss vss ns fs h0 n0) r_psa_10.cells r_psa_10.slots) s₁ (entryFrame mt args 3)
  rw [hA, ef_psa_10]
  obtain ⟨cs, u, S0, hcs, S1, hu, S2, S3, S4⟩ := id ST
  have nva : a ≠ bf := Exa.neArv BE BV (ow hw 34 rfl)
  have nsa : s_ ≠ a := own_exne Es BE (by decide)
  have nba : a ≠ bss := Exa.neArv BE Vs (ow hw 34 rfl)
  have nsv : s_ ≠ bf := Exa.neArv Es BV (ow hw 5 rfl)
  refine w_aloadN X0 hx hby d37_0 rfl rfl ?_
  refine w_aloadN X0 hx hby d37_1 rfl rfl ?_
  show Win _ _ _ _ s₁ (mkF mt 2 #[.val (.ref a), .val (.int (own_I nb)), .val (.ref s_)] [(.ref s_), (.ref a)])
  obtain ⟨cq519, q519, q519'⟩ := BE.cell
  obtain ⟨v519, _, ⟨T519, L519, k519, n519⟩, -, X519, ⟨Lc519, hQ519, l519, rfl, rfl⟩, st519⟩ := X0.privateBack hx (y := y_35) hown (mvT hZ (ow hw 84 rfl)) (mvT hZ (ow hw 85 rfl)) (own_selC (mvT hZ (ow hw 87 rfl)) (Cond.privateMethod_at (mvP hZ (ow hw 86 rfl) (args := #[]))) (mvT hZ (ow hw 85 rfl)) (by decide)) (Cond.privateMethod_at (mvP hZ (ow hw 86 rfl) (args := #[]))) (mvT hZ (ow hw 88 rfl)) (by decide) (backOf (W := 0) (rm_iin_10 l Z a0 hw [] a s_ h0 n0 Z0 BE Bc Es Fcs ST O) hZ (ow hw 88 rfl) (ow hw 43 rfl) (by decide) (by decide)) (g := (mkF mt 2 #[.val (.ref a), .val (.int (own_I nb)), .val (.ref s_)] [(.ref s_), (.ref a)])) rfl (by rw [hml]; rfl) (Steps.refl _) (a := a) (by rw [e0]; exact q519) q519' (argsL := [(.ref s_)]) (rest := []) (lenOf pd_25 rfl) rfl (wz rfl) (hb hby d37_2) (fun _ _ => ⟨rfl, e0, (by decide : 0 + 0 ≤ _), (by decide : 0 + 0 ≤ _)⟩)
  replace X519 : Stand p l e _ s mt args below meth cd T519 L519 0 0 := X519
  obtain ⟨rfl, Nq519, eh519⟩ := hQ519
  have N519 := own_fr (L := L519) l519 N0 Nq519
  refine Win.tr ?_ st519
  refine w_aloadN X519 hx hby d37_5 rfl rfl ?_
  refine w_aloadN X519 hx hby d37_6 rfl rfl ?_
  obtain ⟨T520, X520, e520, st520⟩ := getF X519 hx hZ hown (host := "") (Or.inl (ow hw 47 rfl)) Via.refl eh519 Bv (g := (mkF mt 7 #[.val (.ref a), .val (.int (own_I nb)), .val (.ref s_)] [(.ref a), (.ref s_)])) rfl rfl (hb hby d37_7)
  refine Win.st ?_ st520
  refine w_iloadN X520 hx hby d37_10 rfl ?_
  refine w_aloadN X520 hx hby d37_11 rfl rfl ?_
  obtain ⟨T521, X521, e521, st521⟩ := getF X520 hx hZ hown (host := "") (Or.inl (ow hw 49 rfl)) Via.refl e520 Bc (g := (mkF mt 12 #[.val (.ref a), .val (.int (own_I nb)), .val (.ref s_)] [(.ref a), (.int (own_I nb)), (.ref bf), (.ref s_)])) rfl rfl (hb hby d37_12)
  refine Win.st ?_ st521
  show Win _ _ _ _ T521 (mkF mt 15 #[.val (.ref a), .val (.int (own_I nb)), .val (.ref s_)] [(.int (1 : Int32)), (.int (own_I nb)), (.ref bf), (.ref s_)])
  obtain ⟨cq522, kq522, q522a, q522b, q522c⟩ := isOf hZ e521 Es
  obtain ⟨v522, _, ⟨T522, L522, k522, n522⟩, -, X522, ⟨Lc522, hQ522, l522, rfl, rfl⟩, st522⟩ := X521.virtualBack hx (y := y_36) (z := y_36) hown (mvT hZ (ow hw 90 rfl)) (mvT hZ (ow hw 91 rfl)) (notFace_of_selects (args := #[]) (mvT hZ (ow hw 93 rfl))) (mvT hZ (ow hw 93 rfl)) (mvT hZ (ow hw 92 rfl)) (by decide) (backOf (W := 0) (rm_gb_01 l Z a0 hw [] s_ bf bss kss vss ns fs kv vv_ nb fb h0 n0 Z0 Es Fvs Fcs Vs hns HEs BV hlv HEv hd nbv gv ST O) hZ (ow hw 94 rfl) (ow hw 6 rfl) (by decide) (by decide)) q522a q522c (g := (mkF mt 15 #[.val (.ref a), .val (.int (own_I nb)), .val (.ref s_)] [(.int (1 : Int32)), (.int (own_I nb)), (.ref bf), (.ref s_)])) rfl (by rw [hml]; rfl) (Steps.refl _) (argsL := [(.ref bf), (.int (own_I nb)), (.int (1 : Int32))]) (rest := []) (lenOf pd_26 rfl) rfl (wz rfl) (hb hby d37_15) (fun _ _ => ⟨rfl, e521, (by decide : 0 + 0 ≤ _), (by decide : 0 + 0 ≤ _)⟩)
  replace X522 : Stand p l e _ s mt args below meth cd T522 L522 0 0 := X522
  obtain ⟨h522, e522⟩ : ∃ z, T522.heap = z := ⟨_, rfl⟩
  rw [e522] at hQ522
  obtain ⟨rfl, Nq522, K522, vt2, hl522, V522, HE522⟩ := hQ522
  have N522 := own_fr (L := L522) l522 N519 Nq522
  have f523_32 := Bv.keep K522 (ninS nva nin0)
  have f523_33 := Bc.keep K522 (ninS nva nin0)
  have f523_34 := Bn.keep K522 (ninS nva nin0)
  have f523_35 := Bm.keep K522 (ninS nva nin0)
  have f523_36 := BX.keep K522
  have K525 : Keep h0 h522 [a, bf] := Keep.trans (Keep.refl h0 [a, bf]) K522 (allS (Or.inl (List.mem_of_getElem? (i := 1) rfl)) all0)
  refine Win.tr ?_ st522
  show Win _ _ _ _ T522 (mkF mt 18 #[.val (.ref a), .val (.int (own_I nb)), .val (.ref s_)] [])
  exact Win.retV X522 hx hlk e522 hrt (hb hby d37_18) (by decide) (by decide) ⟨rfl, N522, K525, bf, _, _, _, _, Or.inl rfl, gv, f523_32, f523_33, f523_34, f523_35, V522, f523_36, ⟨hd, Or.inr ⟨rfl, rfl, hl522, HE522⟩⟩⟩
abbrev k38 : ByteArray := jdk_68_method_9_code
theorem d38_0 : decode k38 0 = .ok (.aload_n 0, 1) := by decide +kernel
theorem d38_1 : decode k38 1 = .ok (.getfield 15, 3) := by decide +kernel
theorem d38_4 : decode k38 4 = .ok (.arraylength, 1) := by decide +kernel
theorem d38_5 : decode k38 5 = .ok (.aload_n 0, 1) := by decide +kernel
theorem d38_6 : decode k38 6 = .ok (.getfield 22, 3) := by decide +kernel
theorem d38_9 : decode k38 9 = .ok (.ishr, 1) := by decide +kernel
theorem d38_10 : decode k38 10 = .ok (.istore_n 2, 1) := by decide +kernel
theorem d38_11 : decode k38 11 = .ok (.iload_n 1, 1) := by decide +kernel
theorem d38_12 : decode k38 12 = .ok (.iload_n 2, 1) := by decide +kernel
theorem d38_13 : decode k38 13 = .ok (.isub, 1) := by decide +kernel
theorem d38_14 : decode k38 14 = .ok (.ifCond .le 24, 3) := by decide +kernel
theorem d38_38 : decode k38 38 = .ok (.return_, 1) := by decide +kernel
abbrev y_38 : MethodName := ⟨"java/lang/AbstractStringBuilder", "ensureCapacityInternal", "(I)V"⟩
abbrev r_eci : Room := { frames := 0, cells := 0, slots := 0, locals := 0 }
theorem ef_eci (mt : MethodId) (a : Addr) (w_ : Nat) : entryFrame mt #[(.ref a), (.int (own_I w_))] 3 = mkF mt 0 #[.val (.ref a), .val (.int (own_I w_)), .unset] [] := by first | (simp [entryFrame, mkF, argsToLocals, Value.category]; done) | rfl
def Q_eci (Z : State) (a : Addr) (bf : Addr) (kv : ClassId) (zv : Int32) (vv_ : List Value) (cb : Int32) (w_ : Nat) (h0 : Heap) (n0 : Nat) (v : Option Value) (h : Heap) (L : List Loc) : Prop := v = none ∧ Fr n0 L ∧ h = h0
theorem rm_eci (l : Launch) (Z : State) (a0 : Array Value) (hw : ∀ d ∈ tables_1, d.before a0 Z = true) (ws : List Jvm.Cond) (a : Addr) (bf : Addr) (kv : ClassId) (zv : Int32) (vv_ : List Value) (cb : Int32) (w_ : Nat) (h0 : Heap) (n0 : Nat) (Z0 : n0 ≤ h0.size) (Bv : Fld Z h0 a "java/lang/AbstractStringBuilder" "value" "[B" (.ref bf)) (Bc : Fld Z h0 a "java/lang/AbstractStringBuilder" "coder" "B" (.int cb)) (BV : Arv Z h0 bf kv .byte zv vv_ (.int (0 : Int32))) (hz : (cb = 0 ∧ zv = 16) ∨ (cb = 1 ∧ zv = 32)) (hw_ : w_ ≤ 16) :
    Met l y_38 k38 3 none ws r_eci #[(.ref a), (.int (own_I w_))] Z h0 (Q_eci Z a bf kv zv vv_ cb w_ h0 n0) := by
  refine MetFree.of_bodySF (plainFor_of_name pn_1) hisR ?_
  intro p e s mt args below meth cd s₁ Bd hml0 hP hK
  obtain ⟨hA, hZ, hh⟩ := hP
  have hx := Bd.exec
  have hby := Bd.bytes
  have hml : cd.maxLocals = 3 := hml0
  have hown : s.vm.findClass "java/lang/AbstractStringBuilder" = some mt.cls := findClass_of_methodNamed Bd.named
  have hlk : meth.locks = false := BodyLoose.notSynchronized Bd
  have hrt := Bd.returns
  have X0 : Stand p l e r_eci s mt args below meth cd s₁ [] 0 0 := Stand.of_body Bd
  have e0 : s₁.heap = h0 := by rw [← hh, Bd.state]; rfl
  have N0 := Fr.nil n0
  show Win p e below (Ends s (Q_eci Z a bf kv zv vv_ cb w_ h0 n0) r_eci.cells r_eci.slots) s₁ (entryFrame mt args 3)
  rw [hA, ef_eci]
  rcases hz with ⟨rfl, rfl⟩ | ⟨rfl, rfl⟩
  · show Win _ _ _ _ s₁ (mkF mt 0 #[.val (.ref a), .val (.int (own_I w_)), .unset] [])
    refine w_aloadN X0 hx hby d38_0 rfl rfl ?_
    obtain ⟨T526, X526, e526, st526⟩ := getF X0 hx hZ hown (host := "") (Or.inl (ow hw 47 rfl)) Via.refl e0 Bv (g := (mkF mt 1 #[.val (.ref a), .val (.int (own_I w_)), .unset] [(.ref a)])) rfl rfl (hb hby d38_1)
    refine Win.st ?_ st526
    show Win _ _ _ _ T526 (mkF mt 4 #[.val (.ref a), .val (.int (own_I w_)), .unset] [(.ref bf)])
    refine Win.st ?_ (own_alen (g := (mkF mt 4 #[.val (.ref a), .val (.int (own_I w_)), .unset] [(.ref bf)])) X526 hx hZ e526 BV rfl rfl (hb hby d38_4))
    refine w_aloadN X526 hx hby d38_5 rfl rfl ?_
    obtain ⟨T527, X527, e527, st527⟩ := getF X526 hx hZ hown (host := "") (Or.inl (ow hw 49 rfl)) Via.refl e526 Bc (g := (mkF mt 6 #[.val (.ref a), .val (.int (own_I w_)), .unset] [(.ref a), (.int (16 : Int32))])) rfl rfl (hb hby d38_6)
    refine Win.st ?_ st527
    show Win _ _ _ _ T527 (mkF mt 9 #[.val (.ref a), .val (.int (own_I w_)), .unset] [(.int (0 : Int32)), (.int (16 : Int32))])
    refine Win.st ?_ (fun tq kq => XS.ishr X527.here hx rfl (hb hby d38_9) rfl kq)
    show Win _ _ _ _ T527 (mkF mt 10 #[.val (.ref a), .val (.int (own_I w_)), .unset] [(.int ((16 : Int32) >>> ((0 : Int32) &&& 31)))])
    refine Win.st ?_ (fun tq kq => XS.istoreN X527.here hx rfl (hb hby d38_10) rfl (l' := #[.val (.ref a), .val (.int (own_I w_)), .val (.int ((16 : Int32) >>> ((0 : Int32) &&& 31)))]) rfl kq)
    refine w_iloadN X527 hx hby d38_11 rfl ?_
    refine w_iloadN X527 hx hby d38_12 rfl ?_
    refine Win.st ?_ (fun tq kq => XS.isub X527.here hx rfl (hb hby d38_13) rfl kq)
    show Win _ _ _ _ T527 (mkF mt 14 #[.val (.ref a), .val (.int (own_I w_)), .val (.int ((16 : Int32) >>> ((0 : Int32) &&& 31)))] [(.int ((own_I w_) - ((16 : Int32) >>> ((0 : Int32) &&& 31))))])
    refine Win.st ?_ (fun tq kq => XS.ifYes X527.here hx rfl (pc0 := 14) (pc' := 38) rfl (hb hby d38_14) rfl ((if0 _ _).trans (flt (own_cap0 hw_)).2.2.2) (by decide) (by decide) kq)
    show Win _ _ _ _ T527 (mkF mt 38 #[.val (.ref a), .val (.int (own_I w_)), .val (.int ((16 : Int32) >>> ((0 : Int32) &&& 31)))] [])
    exact Win.retV X527 hx hlk e527 hrt (hb hby d38_38) (by decide) (by decide) ⟨rfl, N0, rfl⟩
  · show Win _ _ _ _ s₁ (mkF mt 0 #[.val (.ref a), .val (.int (own_I w_)), .unset] [])
    refine w_aloadN X0 hx hby d38_0 rfl rfl ?_
    obtain ⟨T528, X528, e528, st528⟩ := getF X0 hx hZ hown (host := "") (Or.inl (ow hw 47 rfl)) Via.refl e0 Bv (g := (mkF mt 1 #[.val (.ref a), .val (.int (own_I w_)), .unset] [(.ref a)])) rfl rfl (hb hby d38_1)
    refine Win.st ?_ st528
    show Win _ _ _ _ T528 (mkF mt 4 #[.val (.ref a), .val (.int (own_I w_)), .unset] [(.ref bf)])
    refine Win.st ?_ (own_alen (g := (mkF mt 4 #[.val (.ref a), .val (.int (own_I w_)), .unset] [(.ref bf)])) X528 hx hZ e528 BV rfl rfl (hb hby d38_4))
    refine w_aloadN X528 hx hby d38_5 rfl rfl ?_
    obtain ⟨T529, X529, e529, st529⟩ := getF X528 hx hZ hown (host := "") (Or.inl (ow hw 49 rfl)) Via.refl e528 Bc (g := (mkF mt 6 #[.val (.ref a), .val (.int (own_I w_)), .unset] [(.ref a), (.int (32 : Int32))])) rfl rfl (hb hby d38_6)
    refine Win.st ?_ st529
    show Win _ _ _ _ T529 (mkF mt 9 #[.val (.ref a), .val (.int (own_I w_)), .unset] [(.int (1 : Int32)), (.int (32 : Int32))])
    refine Win.st ?_ (fun tq kq => XS.ishr X529.here hx rfl (hb hby d38_9) rfl kq)
    show Win _ _ _ _ T529 (mkF mt 10 #[.val (.ref a), .val (.int (own_I w_)), .unset] [(.int ((32 : Int32) >>> ((1 : Int32) &&& 31)))])
    refine Win.st ?_ (fun tq kq => XS.istoreN X529.here hx rfl (hb hby d38_10) rfl (l' := #[.val (.ref a), .val (.int (own_I w_)), .val (.int ((32 : Int32) >>> ((1 : Int32) &&& 31)))]) rfl kq)
    refine w_iloadN X529 hx hby d38_11 rfl ?_
    refine w_iloadN X529 hx hby d38_12 rfl ?_
    refine Win.st ?_ (fun tq kq => XS.isub X529.here hx rfl (hb hby d38_13) rfl kq)
    show Win _ _ _ _ T529 (mkF mt 14 #[.val (.ref a), .val (.int (own_I w_)), .val (.int ((32 : Int32) >>> ((1 : Int32) &&& 31)))] [(.int ((own_I w_) - ((32 : Int32) >>> ((1 : Int32) &&& 31))))])
    refine Win.st ?_ (fun tq kq => XS.ifYes X529.here hx rfl (pc0 := 14) (pc' := 38) rfl (hb hby d38_14) rfl ((if0 _ _).trans (flt (own_cap1 hw_)).2.2.2) (by decide) (by decide) kq)
    show Win _ _ _ _ T529 (mkF mt 38 #[.val (.ref a), .val (.int (own_I w_)), .val (.int ((32 : Int32) >>> ((1 : Int32) &&& 31)))] [])
    exact Win.retV X529 hx hlk e529 hrt (hb hby d38_38) (by decide) (by decide) ⟨rfl, N0, rfl⟩
abbrev k39 : ByteArray := jdk_68_method_22_code
theorem d39_0 : decode k39 0 = .ok (.aload_n 1, 1) := by decide +kernel
theorem d39_1 : decode k39 1 = .ok (.ifnonnull 8, 3) := by decide +kernel
theorem d39_9 : decode k39 9 = .ok (.aload_n 1, 1) := by decide +kernel
theorem d39_10 : decode k39 10 = .ok (.invokevirtual 32, 3) := by decide +kernel
theorem pd_27 : parseMethodDescriptor "()I" = some ⟨[], some .int⟩ := by decide +kernel
theorem d39_13 : decode k39 13 = .ok (.istore_n 2, 1) := by decide +kernel
theorem d39_14 : decode k39 14 = .ok (.aload_n 0, 1) := by decide +kernel
theorem d39_15 : decode k39 15 = .ok (.aload_n 0, 1) := by decide +kernel
theorem d39_16 : decode k39 16 = .ok (.getfield 79, 3) := by decide +kernel
theorem d39_19 : decode k39 19 = .ok (.iload_n 2, 1) := by decide +kernel
theorem d39_20 : decode k39 20 = .ok (.iadd, 1) := by decide +kernel
theorem d39_21 : decode k39 21 = .ok (.invokevirtual 100, 3) := by decide +kernel
theorem d39_24 : decode k39 24 = .ok (.aload_n 0, 1) := by decide +kernel
theorem d39_25 : decode k39 25 = .ok (.aload_n 0, 1) := by decide +kernel
theorem d39_26 : decode k39 26 = .ok (.getfield 79, 3) := by decide +kernel
theorem d39_29 : decode k39 29 = .ok (.aload_n 1, 1) := by decide +kernel
theorem d39_30 : decode k39 30 = .ok (.invokevirtual 208, 3) := by decide +kernel
theorem pd_28 : parseMethodDescriptor "(ILjava/lang/String;)V" = some ⟨[.int, (.object "java/lang/String")], none⟩ := by decide +kernel
theorem d39_33 : decode k39 33 = .ok (.aload_n 0, 1) := by decide +kernel
theorem d39_34 : decode k39 34 = .ok (.dup, 1) := by decide +kernel
theorem d39_35 : decode k39 35 = .ok (.getfield 79, 3) := by decide +kernel
theorem d39_38 : decode k39 38 = .ok (.iload_n 2, 1) := by decide +kernel
theorem d39_39 : decode k39 39 = .ok (.iadd, 1) := by decide +kernel
theorem d39_40 : decode k39 40 = .ok (.putfield 79, 3) := by decide +kernel
theorem d39_43 : decode k39 43 = .ok (.aload_n 0, 1) := by decide +kernel
theorem d39_44 : decode k39 44 = .ok (.areturn, 1) := by decide +kernel
abbrev y_39 : MethodName := ⟨"java/lang/AbstractStringBuilder", "append", "(Ljava/lang/String;)Ljava/lang/AbstractStringBuilder;"⟩
abbrev r_aap : Room := { frames := 8, cells := 1, slots := 32, locals := 116 }
theorem ef_aap (mt : MethodId) (a : Addr) (s_ : Addr) : entryFrame mt #[(.ref a), (.ref s_)] 3 = mkF mt 0 #[.val (.ref a), .val (.ref s_), .unset] [] := by first | (simp [entryFrame, mkF, argsToLocals, Value.category]; done) | rfl
def Q_aap (Z : State) (a : Addr) (s_ : Addr) (bf : Addr) (kv : ClassId) (zv : Int32) (vv_ : List Value) (cb : Int32) (nb : Nat) (fb : Nat → Int32) (bss : Addr) (kss : ClassId) (zss : Int32) (vss : List Value) (cos : Int32) (ns : Nat) (fs : Nat → Int32) (h0 : Heap) (n0 : Nat) (v : Option Value) (h : Heap) (L : List Loc) : Prop := v = some (.ref a) ∧ Fr n0 L ∧ Keep h0 h [a, bf] ∧ ∃ (t : Addr) (k : ClassId) (z : Int32) (vs : List Value) (cd : Int32), (t = bf ∨ h0.size ≤ t) ∧ n0 ≤ t ∧ Fld Z h a "java/lang/AbstractStringBuilder" "value" "[B" (.ref t) ∧ Fld Z h a "java/lang/AbstractStringBuilder" "coder" "B" (.int cd) ∧ Fld Z h a "java/lang/AbstractStringBuilder" "count" "I" (.int (own_I (nb + ns))) ∧ Fld Z h a "java/lang/AbstractStringBuilder" "maybeLatin1" "Z" (.int (0 : Int32)) ∧ Arv Z h t k .byte z vs (.int (0 : Int32)) ∧ Exa Z h t "[B" ∧ own_W cd z (nb + ns) (own_cat nb fb fs) vs
theorem rm_aap (l : Launch) (Z : State) (a0 : Array Value) (hw : ∀ d ∈ tables_1, d.before a0 Z = true) (ws : List Jvm.Cond) (a : Addr) (s_ : Addr) (bf : Addr) (kv : ClassId) (zv : Int32) (vv_ : List Value) (cb : Int32) (nb : Nat) (fb : Nat → Int32) (bss : Addr) (kss : ClassId) (zss : Int32) (vss : List Value) (cos : Int32) (ns : Nat) (fs : Nat → Int32) (h0 : Heap) (n0 : Nat) (Z0 : n0 ≤ h0.size) (BE : Exa Z h0 a "java/lang/StringBuilder") (Bv : Fld Z h0 a "java/lang/AbstractStringBuilder" "value" "[B" (.ref bf)) (Bc : Fld Z h0 a "java/lang/AbstractStringBuilder" "coder" "B" (.int cb)) (Bn : Fld Z h0 a "java/lang/AbstractStringBuilder" "count" "I" (.int (own_I nb))) (Bm : Fld Z h0 a "java/lang/AbstractStringBuilder" "maybeLatin1" "Z" (.int (0 : Int32))) (BV : Arv Z h0 bf kv .byte zv vv_ (.int (0 : Int32))) (BX : Exa Z h0 bf "[B") (HW : own_W cb zv nb fb vv_) (ga : n0 ≤ a) (gv : n0 ≤ bf) (Es : Exa Z h0 s_ "java/lang/String") (Fvs : Fld Z h0 s_ "java/lang/String" "value" "[B" (.ref bss)) (Fcs : Fld Z h0 s_ "java/lang/String" "coder" "B" (.int cos)) (Vs : Arv Z h0 bss kss .byte zss vss (.int (0 : Int32))) (Hs : own_S cos zss ns fs vss) (hd : nb + ns ≤ 16) (nbv : bss ≠ bf) (ST : own_St Z) (O : Old Z n0 h0) :
    Met l y_39 k39 3 (some (.object "java/lang/AbstractStringBuilder")) ws r_aap #[(.ref a), (.ref s_)] Z h0 (Q_aap Z a s_ bf kv zv vv_ cb nb fb bss kss zss vss cos ns fs h0 n0) := by
  refine MetFree.of_bodySF (plainFor_of_name pn_1) hisR ?_
  intro p e s mt args below meth cd s₁ Bd hml0 hP hK
  obtain ⟨hA, hZ, hh⟩ := hP
  have hx := Bd.exec
  have hby := Bd.bytes
  have hml : cd.maxLocals = 3 := hml0
  have hown : s.vm.findClass "java/lang/AbstractStringBuilder" = some mt.cls := findClass_of_methodNamed Bd.named
  have hlk : meth.locks = false := BodyLoose.notSynchronized Bd
  have hrt := Bd.returns
  have X0 : Stand p l e r_aap s mt args below meth cd s₁ [] 0 0 := Stand.of_body Bd
  have e0 : s₁.heap = h0 := by rw [← hh, Bd.state]; rfl
  have N0 := Fr.nil n0
  show Win p e below (Ends s (Q_aap Z a s_ bf kv zv vv_ cb nb fb bss kss zss vss cos ns fs h0 n0) r_aap.cells r_aap.slots) s₁ (entryFrame mt args 3)
  rw [hA, ef_aap]
  obtain ⟨cs, u, S0, hcs, S1, hu, S2, S3, S4⟩ := id ST
  have nva : a ≠ bf := Exa.neArv BE BV (ow hw 34 rfl)
  have nsa : s_ ≠ a := own_exne Es BE (by decide)
  have nba : a ≠ bss := Exa.neArv BE Vs (ow hw 34 rfl)
  have nsv : s_ ≠ bf := Exa.neArv Es BV (ow hw 5 rfl)
  refine w_aloadN X0 hx hby d39_0 rfl rfl ?_
  show Win _ _ _ _ s₁ (mkF mt 1 #[.val (.ref a), .val (.ref s_), .unset] [(.ref s_)])
  refine Win.st ?_ (fun tq kq => XS.ifnonnullYes X0.here hx rfl (pc0 := 1) (pc' := 9) rfl (hb hby d39_1) rfl (by decide) (by decide) kq)
  refine w_aloadN X0 hx hby d39_9 rfl rfl ?_
  show Win _ _ _ _ s₁ (mkF mt 10 #[.val (.ref a), .val (.ref s_), .unset] [(.ref s_)])
  obtain ⟨cq530, kq530, q530a, q530b, q530c⟩ := isOf hZ e0 Es
  obtain ⟨v530, _, ⟨T530, L530, k530, n530⟩, -, X530, ⟨Lc530, hQ530, l530, rfl, rfl⟩, st530⟩ := X0.virtualBack hx (y := y_3) (z := y_3) hown (mvT hZ (ow hw 61 rfl)) (mvT hZ (ow hw 62 rfl)) (notFace_of_selects (args := #[]) (mvT hZ (ow hw 64 rfl))) (mvT hZ (ow hw 64 rfl)) (mvT hZ (ow hw 63 rfl)) (by decide) (backOf (W := 0) (rm_slen l Z a0 hw [] s_ bss kss zss vss cos ns fs h0 n0 Z0 Es Fvs Fcs Vs Hs ST O) hZ (ow hw 65 rfl) (ow hw 6 rfl) (by decide) (by decide)) q530a q530c (g := (mkF mt 10 #[.val (.ref a), .val (.ref s_), .unset] [(.ref s_)])) rfl (by rw [hml]; rfl) (Steps.refl _) (argsL := []) (rest := []) (lenOf pd_27 rfl) rfl (wz rfl) (hb hby d39_10) (fun _ _ => ⟨rfl, e0, (by decide : 0 + 0 ≤ _), (by decide : 0 + 0 ≤ _)⟩)
  replace X530 : Stand p l e _ s mt args below meth cd T530 L530 0 0 := X530
  obtain ⟨rfl, Nq530, eh530⟩ := hQ530
  have N530 := own_fr (L := L530) l530 N0 Nq530
  refine Win.tr ?_ st530
  show Win _ _ _ _ T530 (mkF mt 13 #[.val (.ref a), .val (.ref s_), .unset] [(.int (own_I ns))])
  refine Win.st ?_ (fun tq kq => XS.istoreN X530.here hx rfl (hb hby d39_13) rfl (l' := #[.val (.ref a), .val (.ref s_), .val (.int (own_I ns))]) rfl kq)
  refine w_aloadN X530 hx hby d39_14 rfl rfl ?_
  refine w_aloadN X530 hx hby d39_15 rfl rfl ?_
  obtain ⟨T531, X531, e531, st531⟩ := getF X530 hx hZ hown (host := "") (Or.inl (ow hw 72 rfl)) Via.refl eh530 Bn (g := (mkF mt 16 #[.val (.ref a), .val (.ref s_), .val (.int (own_I ns))] [(.ref a), (.ref a)])) rfl rfl (hb hby d39_16)
  refine Win.st ?_ st531
  refine w_iloadN X531 hx hby d39_19 rfl ?_
  refine Win.st ?_ (fun tq kq => XS.iadd X531.here hx rfl (hb hby d39_20) rfl kq)
  show Win _ _ _ _ T531 (mkF mt 21 #[.val (.ref a), .val (.ref s_), .val (.int (own_I ns))] [(.int ((own_I nb) + (own_I ns))), (.ref a)])
  rw [own_I_add nb ns]
  show Win _ _ _ _ T531 (mkF mt 21 #[.val (.ref a), .val (.ref s_), .val (.int (own_I ns))] [(.int (own_I (nb + ns))), (.ref a)])
  obtain ⟨cq532, q532, q532'⟩ := BE.cell
  obtain ⟨v532, _, ⟨T532, L532, k532, n532⟩, -, X532, ⟨Lc532, hQ532, l532, rfl, rfl⟩, st532⟩ := X531.privateBack hx (y := y_38) hown (mvT hZ (ow hw 74 rfl)) (mvT hZ (ow hw 75 rfl)) (own_selC (mvT hZ (ow hw 77 rfl)) (Cond.privateMethod_at (mvP hZ (ow hw 76 rfl) (args := #[]))) (mvT hZ (ow hw 75 rfl)) (by decide)) (Cond.privateMethod_at (mvP hZ (ow hw 76 rfl) (args := #[]))) (mvT hZ (ow hw 78 rfl)) (by decide) (backOf (W := 0) (rm_eci l Z a0 hw [] a bf kv zv vv_ cb (nb + ns) h0 n0 Z0 Bv Bc BV (own_W_cd HW) hd) hZ (ow hw 78 rfl) (ow hw 43 rfl) (by decide) (by decide)) (g := (mkF mt 21 #[.val (.ref a), .val (.ref s_), .val (.int (own_I ns))] [(.int (own_I (nb + ns))), (.ref a)])) rfl (by rw [hml]; rfl) (Steps.refl _) (a := a) (by rw [e531]; exact q532) q532' (argsL := [(.int (own_I (nb + ns)))]) (rest := []) (lenOf pd_21 rfl) rfl (wz rfl) (hb hby d39_21) (fun _ _ => ⟨rfl, e531, (by decide : 0 + 0 ≤ _), (by decide : 0 + 0 ≤ _)⟩)
  replace X532 : Stand p l e _ s mt args below meth cd T532 L532 0 0 := X532
  obtain ⟨rfl, Nq532, eh532⟩ := hQ532
  have N532 := own_fr (L := L532) l532 N530 Nq532
  refine Win.tr ?_ st532
  refine w_aloadN X532 hx hby d39_24 rfl rfl ?_
  refine w_aloadN X532 hx hby d39_25 rfl rfl ?_
  obtain ⟨T533, X533, e533, st533⟩ := getF X532 hx hZ hown (host := "") (Or.inl (ow hw 72 rfl)) Via.refl eh532 Bn (g := (mkF mt 26 #[.val (.ref a), .val (.ref s_), .val (.int (own_I ns))] [(.ref a), (.ref a)])) rfl rfl (hb hby d39_26)
  refine Win.st ?_ st533
  refine w_aloadN X533 hx hby d39_29 rfl rfl ?_
  show Win _ _ _ _ T533 (mkF mt 30 #[.val (.ref a), .val (.ref s_), .val (.int (own_I ns))] [(.ref s_), (.int (own_I nb)), (.ref a)])
  rcases HW with ⟨hnb, ⟨rfl, rfl, hlv, HEv⟩ | ⟨rfl, rfl, hlv, HEv⟩⟩ <;> rcases Hs with ⟨hns, ⟨rfl, rfl, HEs⟩ | ⟨rfl, rfl, HEs⟩⟩
  · show Win _ _ _ _ T533 (mkF mt 30 #[.val (.ref a), .val (.ref s_), .val (.int (own_I ns))] [(.ref s_), (.int (own_I nb)), (.ref a)])
    obtain ⟨cq534, q534, q534'⟩ := BE.cell
    obtain ⟨v534, _, ⟨T534, L534, k534, n534⟩, -, X534, ⟨Lc534, hQ534, l534, rfl, rfl⟩, st534⟩ := X533.privateBack hx (y := y_37) hown (mvT hZ (ow hw 79 rfl)) (mvT hZ (ow hw 80 rfl)) (own_selC (mvT hZ (ow hw 82 rfl)) (Cond.privateMethod_at (mvP hZ (ow hw 81 rfl) (args := #[]))) (mvT hZ (ow hw 80 rfl)) (by decide)) (Cond.privateMethod_at (mvP hZ (ow hw 81 rfl) (args := #[]))) (mvT hZ (ow hw 83 rfl)) (by decide) (backOf (W := 0) (rm_psa_00 l Z a0 hw [] a s_ bf kv vv_ nb fb bss kss vss ns fs h0 n0 Z0 BE Bv Bc Bn Bm BV BX ga gv Es Fvs Fcs Vs hns HEs hlv HEv hd nbv ST O) hZ (ow hw 83 rfl) (ow hw 43 rfl) (by decide) (by decide)) (g := (mkF mt 30 #[.val (.ref a), .val (.ref s_), .val (.int (own_I ns))] [(.ref s_), (.int (own_I nb)), (.ref a)])) rfl (by rw [hml]; rfl) (Steps.refl _) (a := a) (by rw [e533]; exact q534) q534' (argsL := [(.int (own_I nb)), (.ref s_)]) (rest := []) (lenOf pd_28 rfl) rfl (wz rfl) (hb hby d39_30) (fun _ _ => ⟨rfl, e533, (by decide : 0 + 1 ≤ _), (by decide : 0 + 32 ≤ _)⟩)
    replace X534 : Stand p l e _ s mt args below meth cd T534 L534 1 32 := X534
    obtain ⟨h534, e534⟩ : ∃ z, T534.heap = z := ⟨_, rfl⟩
    rw [e534] at hQ534
    obtain ⟨rfl, Nq534, K534, t_, kt, zt_, vt, ct, hor534, gt534, bv534, bc534, bn534, bm534, bV534, bX534, hW534⟩ := hQ534
    have N534 := own_fr (L := L534) l534 N532 Nq534
    have f535_49 := BE.keep K534
    have K537 : Keep h0 h534 [a, bf] := Keep.trans (Keep.refl h0 [a, bf]) K534 (allS (Or.inl (List.mem_of_getElem? (i := 0) rfl)) (allS (Or.inl (List.mem_of_getElem? (i := 1) rfl)) all0))
    have ne538 : a ≠ t_ := own_orne hor534 BE.lt nva
    refine Win.tr ?_ st534
    refine w_aloadN X534 hx hby d39_33 rfl rfl ?_
    refine Win.st ?_ (fun tq kq => XS.dup X534.here hx rfl (hb hby d39_34) rfl rfl kq)
    show Win _ _ _ _ T534 (mkF mt 35 #[.val (.ref a), .val (.ref s_), .val (.int (own_I ns))] [(.ref a), (.ref a)])
    obtain ⟨T541, X541, e541, st541⟩ := getF X534 hx hZ hown (host := "") (Or.inl (ow hw 72 rfl)) Via.refl e534 bn534 (g := (mkF mt 35 #[.val (.ref a), .val (.ref s_), .val (.int (own_I ns))] [(.ref a), (.ref a)])) rfl rfl (hb hby d39_35)
    refine Win.st ?_ st541
    refine w_iloadN X541 hx hby d39_38 rfl ?_
    refine Win.st ?_ (fun tq kq => XS.iadd X541.here hx rfl (hb hby d39_39) rfl kq)
    show Win _ _ _ _ T541 (mkF mt 40 #[.val (.ref a), .val (.ref s_), .val (.int (own_I ns))] [(.int ((own_I nb) + (own_I ns))), (.ref a)])
    rw [own_I_add nb ns]
    show Win _ _ _ _ T541 (mkF mt 40 #[.val (.ref a), .val (.ref s_), .val (.int (own_I ns))] [(.int (own_I (nb + ns))), (.ref a)])
    obtain ⟨T542, h542, X542, e542, W542, st542⟩ := putF X541 hx hZ hown (host := "") (Or.inl (ow hw 72 rfl)) Via.refl e541 bn534 f535_49 (Or.inl (ow hw 73 rfl)) (ow hw 34 rfl) (ty := .int) (by decide) rfl rfl (g := (mkF mt 40 #[.val (.ref a), .val (.ref s_), .val (.int (own_I ns))] [(.int (own_I (nb + ns))), (.ref a)])) rfl rfl (hb hby d39_40)
    obtain ⟨L542, X542, N542⟩ := own_hide X542 N534 ga
    have kp542 := Keep.of_wr W542
    have f542_70 := bv534.other W542 (Or.inr (slot_ne (Or.inl (ow hw 48 rfl)) (Or.inl (ow hw 73 rfl)) (by decide) (t := (.array .byte)) (t' := .int) (by decide) (by decide)))
    have f542_71 := bc534.other W542 (Or.inr (slot_ne (Or.inl (ow hw 50 rfl)) (Or.inl (ow hw 73 rfl)) (by decide) (t := .byte) (t' := .int) (by decide) (by decide)))
    have fw542 := bn534.same W542
    have f542_73 := bm534.other W542 (Or.inr (slot_ne (Or.inl (ow hw 299 rfl)) (Or.inl (ow hw 73 rfl)) (by decide) (t := .boolean) (t' := .int) (by decide) (by decide)))
    have f543_77 := bV534.keep kp542 (ninS (Ne.symm ne538) nin0)
    have f543_78 := bX534.keep kp542
    have K545 : Keep h0 h542 [a, bf] := Keep.trans K537 kp542 (allS (Or.inl (List.mem_of_getElem? (i := 0) rfl)) all0)
    refine Win.st ?_ st542
    refine w_aloadN X542 hx hby d39_43 rfl rfl ?_
    show Win _ _ _ _ T542 (mkF mt 44 #[.val (.ref a), .val (.ref s_), .val (.int (own_I ns))] [(.ref a)])
    exact Win.ret X542 hx hlk e542 hrt rfl (Or.inr (Or.inr (Or.inr (Or.inr ⟨rfl, rfl, rfl⟩)))) (hb hby d39_44) (by decide) (by decide) ⟨rfl, N542, K545, t_, kt, zt_, vt, ct, hor534, gt534, f542_70, f542_71, fw542, f542_73, f543_77, f543_78, hW534⟩
  · show Win _ _ _ _ T533 (mkF mt 30 #[.val (.ref a), .val (.ref s_), .val (.int (own_I ns))] [(.ref s_), (.int (own_I nb)), (.ref a)])
    obtain ⟨cq546, q546, q546'⟩ := BE.cell
    obtain ⟨v546, _, ⟨T546, L546, k546, n546⟩, -, X546, ⟨Lc546, hQ546, l546, rfl, rfl⟩, st546⟩ := X533.privateBack hx (y := y_37) hown (mvT hZ (ow hw 79 rfl)) (mvT hZ (ow hw 80 rfl)) (own_selC (mvT hZ (ow hw 82 rfl)) (Cond.privateMethod_at (mvP hZ (ow hw 81 rfl) (args := #[]))) (mvT hZ (ow hw 80 rfl)) (by decide)) (Cond.privateMethod_at (mvP hZ (ow hw 81 rfl) (args := #[]))) (mvT hZ (ow hw 83 rfl)) (by decide) (backOf (W := 0) (rm_psa_01 l Z a0 hw [] a s_ bf kv vv_ nb fb bss kss vss ns fs h0 n0 Z0 BE Bv Bc Bn Bm BV BX ga gv Es Fvs Fcs Vs hns HEs hlv HEv hd nbv ST O) hZ (ow hw 83 rfl) (ow hw 43 rfl) (by decide) (by decide)) (g := (mkF mt 30 #[.val (.ref a), .val (.ref s_), .val (.int (own_I ns))] [(.ref s_), (.int (own_I nb)), (.ref a)])) rfl (by rw [hml]; rfl) (Steps.refl _) (a := a) (by rw [e533]; exact q546) q546' (argsL := [(.int (own_I nb)), (.ref s_)]) (rest := []) (lenOf pd_28 rfl) rfl (wz rfl) (hb hby d39_30) (fun _ _ => ⟨rfl, e533, (by decide : 0 + 1 ≤ _), (by decide : 0 + 32 ≤ _)⟩)
    replace X546 : Stand p l e _ s mt args below meth cd T546 L546 1 32 := X546
    obtain ⟨h546, e546⟩ : ∃ z, T546.heap = z := ⟨_, rfl⟩
    rw [e546] at hQ546
    obtain ⟨rfl, Nq546, K546, t_, kt, zt_, vt, ct, hor546, gt546, bv546, bc546, bn546, bm546, bV546, bX546, hW546⟩ := hQ546
    have N546 := own_fr (L := L546) l546 N532 Nq546
    have f547_94 := BE.keep K546
    have K549 : Keep h0 h546 [a, bf] := Keep.trans (Keep.refl h0 [a, bf]) K546 (allS (Or.inl (List.mem_of_getElem? (i := 0) rfl)) (allS (Or.inl (List.mem_of_getElem? (i := 1) rfl)) all0))
    have ne550 : a ≠ t_ := own_orne hor546 BE.lt nva
    refine Win.tr ?_ st546
    refine w_aloadN X546 hx hby d39_33 rfl rfl ?_
    refine Win.st ?_ (fun tq kq => XS.dup X546.here hx rfl (hb hby d39_34) rfl rfl kq)
    show Win _ _ _ _ T546 (mkF mt 35 #[.val (.ref a), .val (.ref s_), .val (.int (own_I ns))] [(.ref a), (.ref a)])
    obtain ⟨T553, X553, e553, st553⟩ := getF X546 hx hZ hown (host := "") (Or.inl (ow hw 72 rfl)) Via.refl e546 bn546 (g := (mkF mt 35 #[.val (.ref a), .val (.ref s_), .val (.int (own_I ns))] [(.ref a), (.ref a)])) rfl rfl (hb hby d39_35)
    refine Win.st ?_ st553
    refine w_iloadN X553 hx hby d39_38 rfl ?_
    refine Win.st ?_ (fun tq kq => XS.iadd X553.here hx rfl (hb hby d39_39) rfl kq)
    show Win _ _ _ _ T553 (mkF mt 40 #[.val (.ref a), .val (.ref s_), .val (.int (own_I ns))] [(.int ((own_I nb) + (own_I ns))), (.ref a)])
    rw [own_I_add nb ns]
    show Win _ _ _ _ T553 (mkF mt 40 #[.val (.ref a), .val (.ref s_), .val (.int (own_I ns))] [(.int (own_I (nb + ns))), (.ref a)])
    obtain ⟨T554, h554, X554, e554, W554, st554⟩ := putF X553 hx hZ hown (host := "") (Or.inl (ow hw 72 rfl)) Via.refl e553 bn546 f547_94 (Or.inl (ow hw 73 rfl)) (ow hw 34 rfl) (ty := .int) (by decide) rfl rfl (g := (mkF mt 40 #[.val (.ref a), .val (.ref s_), .val (.int (own_I ns))] [(.int (own_I (nb + ns))), (.ref a)])) rfl rfl (hb hby d39_40)
    obtain ⟨L554, X554, N554⟩ := own_hide X554 N546 ga
    have kp554 := Keep.of_wr W554
    have f554_115 := bv546.other W554 (Or.inr (slot_ne (Or.inl (ow hw 48 rfl)) (Or.inl (ow hw 73 rfl)) (by decide) (t := (.array .byte)) (t' := .int) (by decide) (by decide)))
    have f554_116 := bc546.other W554 (Or.inr (slot_ne (Or.inl (ow hw 50 rfl)) (Or.inl (ow hw 73 rfl)) (by decide) (t := .byte) (t' := .int) (by decide) (by decide)))
    have fw554 := bn546.same W554
    have f554_118 := bm546.other W554 (Or.inr (slot_ne (Or.inl (ow hw 299 rfl)) (Or.inl (ow hw 73 rfl)) (by decide) (t := .boolean) (t' := .int) (by decide) (by decide)))
    have f555_122 := bV546.keep kp554 (ninS (Ne.symm ne550) nin0)
    have f555_123 := bX546.keep kp554
    have K557 : Keep h0 h554 [a, bf] := Keep.trans K549 kp554 (allS (Or.inl (List.mem_of_getElem? (i := 0) rfl)) all0)
    refine Win.st ?_ st554
    refine w_aloadN X554 hx hby d39_43 rfl rfl ?_
    show Win _ _ _ _ T554 (mkF mt 44 #[.val (.ref a), .val (.ref s_), .val (.int (own_I ns))] [(.ref a)])
    exact Win.ret X554 hx hlk e554 hrt rfl (Or.inr (Or.inr (Or.inr (Or.inr ⟨rfl, rfl, rfl⟩)))) (hb hby d39_44) (by decide) (by decide) ⟨rfl, N554, K557, t_, kt, zt_, vt, ct, hor546, gt546, f554_115, f554_116, fw554, f554_118, f555_122, f555_123, hW546⟩
  · show Win _ _ _ _ T533 (mkF mt 30 #[.val (.ref a), .val (.ref s_), .val (.int (own_I ns))] [(.ref s_), (.int (own_I nb)), (.ref a)])
    obtain ⟨cq558, q558, q558'⟩ := BE.cell
    obtain ⟨v558, _, ⟨T558, L558, k558, n558⟩, -, X558, ⟨Lc558, hQ558, l558, rfl, rfl⟩, st558⟩ := X533.privateBack hx (y := y_37) hown (mvT hZ (ow hw 79 rfl)) (mvT hZ (ow hw 80 rfl)) (own_selC (mvT hZ (ow hw 82 rfl)) (Cond.privateMethod_at (mvP hZ (ow hw 81 rfl) (args := #[]))) (mvT hZ (ow hw 80 rfl)) (by decide)) (Cond.privateMethod_at (mvP hZ (ow hw 81 rfl) (args := #[]))) (mvT hZ (ow hw 83 rfl)) (by decide) (backOf (W := 0) (rm_psa_10 l Z a0 hw [] a s_ bf kv vv_ nb fb bss kss vss ns fs h0 n0 Z0 BE Bv Bc Bn Bm BV BX ga gv Es Fvs Fcs Vs hns HEs hlv HEv hd nbv ST O) hZ (ow hw 83 rfl) (ow hw 43 rfl) (by decide) (by decide)) (g := (mkF mt 30 #[.val (.ref a), .val (.ref s_), .val (.int (own_I ns))] [(.ref s_), (.int (own_I nb)), (.ref a)])) rfl (by rw [hml]; rfl) (Steps.refl _) (a := a) (by rw [e533]; exact q558) q558' (argsL := [(.int (own_I nb)), (.ref s_)]) (rest := []) (lenOf pd_28 rfl) rfl (wz rfl) (hb hby d39_30) (fun _ _ => ⟨rfl, e533, (by decide : 0 + 1 ≤ _), (by decide : 0 + 32 ≤ _)⟩)
    replace X558 : Stand p l e _ s mt args below meth cd T558 L558 1 32 := X558
    obtain ⟨h558, e558⟩ : ∃ z, T558.heap = z := ⟨_, rfl⟩
    rw [e558] at hQ558
    obtain ⟨rfl, Nq558, K558, t_, kt, zt_, vt, ct, hor558, gt558, bv558, bc558, bn558, bm558, bV558, bX558, hW558⟩ := hQ558
    have N558 := own_fr (L := L558) l558 N532 Nq558
    have f559_139 := BE.keep K558
    have K561 : Keep h0 h558 [a, bf] := Keep.trans (Keep.refl h0 [a, bf]) K558 (allS (Or.inl (List.mem_of_getElem? (i := 0) rfl)) (allS (Or.inl (List.mem_of_getElem? (i := 1) rfl)) all0))
    have ne562 : a ≠ t_ := own_orne hor558 BE.lt nva
    refine Win.tr ?_ st558
    refine w_aloadN X558 hx hby d39_33 rfl rfl ?_
    refine Win.st ?_ (fun tq kq => XS.dup X558.here hx rfl (hb hby d39_34) rfl rfl kq)
    show Win _ _ _ _ T558 (mkF mt 35 #[.val (.ref a), .val (.ref s_), .val (.int (own_I ns))] [(.ref a), (.ref a)])
    obtain ⟨T565, X565, e565, st565⟩ := getF X558 hx hZ hown (host := "") (Or.inl (ow hw 72 rfl)) Via.refl e558 bn558 (g := (mkF mt 35 #[.val (.ref a), .val (.ref s_), .val (.int (own_I ns))] [(.ref a), (.ref a)])) rfl rfl (hb hby d39_35)
    refine Win.st ?_ st565
    refine w_iloadN X565 hx hby d39_38 rfl ?_
    refine Win.st ?_ (fun tq kq => XS.iadd X565.here hx rfl (hb hby d39_39) rfl kq)
    show Win _ _ _ _ T565 (mkF mt 40 #[.val (.ref a), .val (.ref s_), .val (.int (own_I ns))] [(.int ((own_I nb) + (own_I ns))), (.ref a)])
    rw [own_I_add nb ns]
    show Win _ _ _ _ T565 (mkF mt 40 #[.val (.ref a), .val (.ref s_), .val (.int (own_I ns))] [(.int (own_I (nb + ns))), (.ref a)])
    obtain ⟨T566, h566, X566, e566, W566, st566⟩ := putF X565 hx hZ hown (host := "") (Or.inl (ow hw 72 rfl)) Via.refl e565 bn558 f559_139 (Or.inl (ow hw 73 rfl)) (ow hw 34 rfl) (ty := .int) (by decide) rfl rfl (g := (mkF mt 40 #[.val (.ref a), .val (.ref s_), .val (.int (own_I ns))] [(.int (own_I (nb + ns))), (.ref a)])) rfl rfl (hb hby d39_40)
    obtain ⟨L566, X566, N566⟩ := own_hide X566 N558 ga
    have kp566 := Keep.of_wr W566
    have f566_160 := bv558.other W566 (Or.inr (slot_ne (Or.inl (ow hw 48 rfl)) (Or.inl (ow hw 73 rfl)) (by decide) (t := (.array .byte)) (t' := .int) (by decide) (by decide)))
    have f566_161 := bc558.other W566 (Or.inr (slot_ne (Or.inl (ow hw 50 rfl)) (Or.inl (ow hw 73 rfl)) (by decide) (t := .byte) (t' := .int) (by decide) (by decide)))
    have fw566 := bn558.same W566
    have f566_163 := bm558.other W566 (Or.inr (slot_ne (Or.inl (ow hw 299 rfl)) (Or.inl (ow hw 73 rfl)) (by decide) (t := .boolean) (t' := .int) (by decide) (by decide)))
    have f567_167 := bV558.keep kp566 (ninS (Ne.symm ne562) nin0)
    have f567_168 := bX558.keep kp566
    have K569 : Keep h0 h566 [a, bf] := Keep.trans K561 kp566 (allS (Or.inl (List.mem_of_getElem? (i := 0) rfl)) all0)
    refine Win.st ?_ st566
    refine w_aloadN X566 hx hby d39_43 rfl rfl ?_
    show Win _ _ _ _ T566 (mkF mt 44 #[.val (.ref a), .val (.ref s_), .val (.int (own_I ns))] [(.ref a)])
    exact Win.ret X566 hx hlk e566 hrt rfl (Or.inr (Or.inr (Or.inr (Or.inr ⟨rfl, rfl, rfl⟩)))) (hb hby d39_44) (by decide) (by decide) ⟨rfl, N566, K569, t_, kt, zt_, vt, ct, hor558, gt558, f566_160, f566_161, fw566, f566_163, f567_167, f567_168, hW558⟩
  · show Win _ _ _ _ T533 (mkF mt 30 #[.val (.ref a), .val (.ref s_), .val (.int (own_I ns))] [(.ref s_), (.int (own_I nb)), (.ref a)])
    obtain ⟨cq570, q570, q570'⟩ := BE.cell
    obtain ⟨v570, _, ⟨T570, L570, k570, n570⟩, -, X570, ⟨Lc570, hQ570, l570, rfl, rfl⟩, st570⟩ := X533.privateBack hx (y := y_37) hown (mvT hZ (ow hw 79 rfl)) (mvT hZ (ow hw 80 rfl)) (own_selC (mvT hZ (ow hw 82 rfl)) (Cond.privateMethod_at (mvP hZ (ow hw 81 rfl) (args := #[]))) (mvT hZ (ow hw 80 rfl)) (by decide)) (Cond.privateMethod_at (mvP hZ (ow hw 81 rfl) (args := #[]))) (mvT hZ (ow hw 83 rfl)) (by decide) (backOf (W := 0) (rm_psa_11 l Z a0 hw [] a s_ bf kv vv_ nb fb bss kss vss ns fs h0 n0 Z0 BE Bv Bc Bn Bm BV BX ga gv Es Fvs Fcs Vs hns HEs hlv HEv hd nbv ST O) hZ (ow hw 83 rfl) (ow hw 43 rfl) (by decide) (by decide)) (g := (mkF mt 30 #[.val (.ref a), .val (.ref s_), .val (.int (own_I ns))] [(.ref s_), (.int (own_I nb)), (.ref a)])) rfl (by rw [hml]; rfl) (Steps.refl _) (a := a) (by rw [e533]; exact q570) q570' (argsL := [(.int (own_I nb)), (.ref s_)]) (rest := []) (lenOf pd_28 rfl) rfl (wz rfl) (hb hby d39_30) (fun _ _ => ⟨rfl, e533, (by decide : 0 + 1 ≤ _), (by decide : 0 + 32 ≤ _)⟩)
    replace X570 : Stand p l e _ s mt args below meth cd T570 L570 1 32 := X570
    obtain ⟨h570, e570⟩ : ∃ z, T570.heap = z := ⟨_, rfl⟩
    rw [e570] at hQ570
    obtain ⟨rfl, Nq570, K570, t_, kt, zt_, vt, ct, hor570, gt570, bv570, bc570, bn570, bm570, bV570, bX570, hW570⟩ := hQ570
    have N570 := own_fr (L := L570) l570 N532 Nq570
    have f571_184 := BE.keep K570
    have K573 : Keep h0 h570 [a, bf] := Keep.trans (Keep.refl h0 [a, bf]) K570 (allS (Or.inl (List.mem_of_getElem? (i := 0) rfl)) (allS (Or.inl (List.mem_of_getElem? (i := 1) rfl)) all0))
    have ne574 : a ≠ t_ := own_orne hor570 BE.lt nva
    refine Win.tr ?_ st570
    refine w_aloadN X570 hx hby d39_33 rfl rfl ?_
    refine Win.st ?_ (fun tq kq => XS.dup X570.here hx rfl (hb hby d39_34) rfl rfl kq)
    show Win _ _ _ _ T570 (mkF mt 35 #[.val (.ref a), .val (.ref s_), .val (.int (own_I ns))] [(.ref a), (.ref a)])
    obtain ⟨T577, X577, e577, st577⟩ := getF X570 hx hZ hown (host := "") (Or.inl (ow hw 72 rfl)) Via.refl e570 bn570 (g := (mkF mt 35 #[.val (.ref a), .val (.ref s_), .val (.int (own_I ns))] [(.ref a), (.ref a)])) rfl rfl (hb hby d39_35)
    refine Win.st ?_ st577
    refine w_iloadN X577 hx hby d39_38 rfl ?_
    refine Win.st ?_ (fun tq kq => XS.iadd X577.here hx rfl (hb hby d39_39) rfl kq)
    show Win _ _ _ _ T577 (mkF mt 40 #[.val (.ref a), .val (.ref s_), .val (.int (own_I ns))] [(.int ((own_I nb) + (own_I ns))), (.ref a)])
    rw [own_I_add nb ns]
    show Win _ _ _ _ T577 (mkF mt 40 #[.val (.ref a), .val (.ref s_), .val (.int (own_I ns))] [(.int (own_I (nb + ns))), (.ref a)])
    obtain ⟨T578, h578, X578, e578, W578, st578⟩ := putF X577 hx hZ hown (host := "") (Or.inl (ow hw 72 rfl)) Via.refl e577 bn570 f571_184 (Or.inl (ow hw 73 rfl)) (ow hw 34 rfl) (ty := .int) (by decide) rfl rfl (g := (mkF mt 40 #[.val (.ref a), .val (.ref s_), .val (.int (own_I ns))] [(.int (own_I (nb + ns))), (.ref a)])) rfl rfl (hb hby d39_40)
    obtain ⟨L578, X578, N578⟩ := own_hide X578 N570 ga
    have kp578 := Keep.of_wr W578
    have f578_205 := bv570.other W578 (Or.inr (slot_ne (Or.inl (ow hw 48 rfl)) (Or.inl (ow hw 73 rfl)) (by decide) (t := (.array .byte)) (t' := .int) (by decide) (by decide)))
    have f578_206 := bc570.other W578 (Or.inr (slot_ne (Or.inl (ow hw 50 rfl)) (Or.inl (ow hw 73 rfl)) (by decide) (t := .byte) (t' := .int) (by decide) (by decide)))
    have fw578 := bn570.same W578
    have f578_208 := bm570.other W578 (Or.inr (slot_ne (Or.inl (ow hw 299 rfl)) (Or.inl (ow hw 73 rfl)) (by decide) (t := .boolean) (t' := .int) (by decide) (by decide)))
    have f579_212 := bV570.keep kp578 (ninS (Ne.symm ne574) nin0)
    have f579_213 := bX570.keep kp578
    have K581 : Keep h0 h578 [a, bf] := Keep.trans K573 kp578 (allS (Or.inl (List.mem_of_getElem? (i := 0) rfl)) all0)
    refine Win.st ?_ st578
    refine w_aloadN X578 hx hby d39_43 rfl rfl ?_
    show Win _ _ _ _ T578 (mkF mt 44 #[.val (.ref a), .val (.ref s_), .val (.int (own_I ns))] [(.ref a)])
    exact Win.ret X578 hx hlk e578 hrt rfl (Or.inr (Or.inr (Or.inr (Or.inr ⟨rfl, rfl, rfl⟩)))) (hb hby d39_44) (by decide) (by decide) ⟨rfl, N578, K581, t_, kt, zt_, vt, ct, hor570, gt570, f578_205, f578_206, fw578, f578_208, f579_212, f579_213, hW570⟩
abbrev k40 : ByteArray := jdk_67_method_7_code
theorem d40_0 : decode k40 0 = .ok (.aload_n 0, 1) := by decide +kernel
theorem d40_1 : decode k40 1 = .ok (.aload_n 1, 1) := by decide +kernel
theorem d40_2 : decode k40 2 = .ok (.invokespecial 29, 3) := by decide +kernel
theorem pd_29 : parseMethodDescriptor "(Ljava/lang/String;)Ljava/lang/AbstractStringBuilder;" = some ⟨[(.object "java/lang/String")], some (.object "java/lang/AbstractStringBuilder")⟩ := by decide +kernel
theorem d40_5 : decode k40 5 = .ok (.pop, 1) := by decide +kernel
theorem d40_6 : decode k40 6 = .ok (.aload_n 0, 1) := by decide +kernel
theorem d40_7 : decode k40 7 = .ok (.areturn, 1) := by decide +kernel
abbrev y_40 : MethodName := ⟨"java/lang/StringBuilder", "append", "(Ljava/lang/String;)Ljava/lang/StringBuilder;"⟩
abbrev r_sap : Room := { frames := 9, cells := 1, slots := 32, locals := 130 }
theorem ef_sap (mt : MethodId) (a : Addr) (s_ : Addr) : entryFrame mt #[(.ref a), (.ref s_)] 2 = mkF mt 0 #[.val (.ref a), .val (.ref s_)] [] := by first | (simp [entryFrame, mkF, argsToLocals, Value.category]; done) | rfl
def Q_sap (Z : State) (a : Addr) (s_ : Addr) (bf : Addr) (kv : ClassId) (zv : Int32) (vv_ : List Value) (cb : Int32) (nb : Nat) (fb : Nat → Int32) (bss : Addr) (kss : ClassId) (zss : Int32) (vss : List Value) (cos : Int32) (ns : Nat) (fs : Nat → Int32) (h0 : Heap) (n0 : Nat) (v : Option Value) (h : Heap) (L : List Loc) : Prop := v = some (.ref a) ∧ Fr n0 L ∧ Keep h0 h [a, bf] ∧ ∃ (t : Addr) (k : ClassId) (z : Int32) (vs : List Value) (cd : Int32), (t = bf ∨ h0.size ≤ t) ∧ n0 ≤ t ∧ Fld Z h a "java/lang/AbstractStringBuilder" "value" "[B" (.ref t) ∧ Fld Z h a "java/lang/AbstractStringBuilder" "coder" "B" (.int cd) ∧ Fld Z h a "java/lang/AbstractStringBuilder" "count" "I" (.int (own_I (nb + ns))) ∧ Fld Z h a "java/lang/AbstractStringBuilder" "maybeLatin1" "Z" (.int (0 : Int32)) ∧ Arv Z h t k .byte z vs (.int (0 : Int32)) ∧ Exa Z h t "[B" ∧ own_W cd z (nb + ns) (own_cat nb fb fs) vs
theorem rm_sap (l : Launch) (Z : State) (a0 : Array Value) (hw : ∀ d ∈ tables_1, d.before a0 Z = true) (ws : List Jvm.Cond) (a : Addr) (s_ : Addr) (bf : Addr) (kv : ClassId) (zv : Int32) (vv_ : List Value) (cb : Int32) (nb : Nat) (fb : Nat → Int32) (bss : Addr) (kss : ClassId) (zss : Int32) (vss : List Value) (cos : Int32) (ns : Nat) (fs : Nat → Int32) (h0 : Heap) (n0 : Nat) (Z0 : n0 ≤ h0.size) (BE : Exa Z h0 a "java/lang/StringBuilder") (Bv : Fld Z h0 a "java/lang/AbstractStringBuilder" "value" "[B" (.ref bf)) (Bc : Fld Z h0 a "java/lang/AbstractStringBuilder" "coder" "B" (.int cb)) (Bn : Fld Z h0 a "java/lang/AbstractStringBuilder" "count" "I" (.int (own_I nb))) (Bm : Fld Z h0 a "java/lang/AbstractStringBuilder" "maybeLatin1" "Z" (.int (0 : Int32))) (BV : Arv Z h0 bf kv .byte zv vv_ (.int (0 : Int32))) (BX : Exa Z h0 bf "[B") (HW : own_W cb zv nb fb vv_) (ga : n0 ≤ a) (gv : n0 ≤ bf) (Es : Exa Z h0 s_ "java/lang/String") (Fvs : Fld Z h0 s_ "java/lang/String" "value" "[B" (.ref bss)) (Fcs : Fld Z h0 s_ "java/lang/String" "coder" "B" (.int cos)) (Vs : Arv Z h0 bss kss .byte zss vss (.int (0 : Int32))) (Hs : own_S cos zss ns fs vss) (hd : nb + ns ≤ 16) (nbv : bss ≠ bf) (ST : own_St Z) (O : Old Z n0 h0) :
    Met l y_40 k40 2 (some (.object "java/lang/StringBuilder")) ws r_sap #[(.ref a), (.ref s_)] Z h0 (Q_sap Z a s_ bf kv zv vv_ cb nb fb bss kss zss vss cos ns fs h0 n0) := by
  refine MetFree.of_bodySF (plainFor_of_name pn_6) hisR ?_
  intro p e s mt args below meth cd s₁ Bd hml0 hP hK
  obtain ⟨hA, hZ, hh⟩ := hP
  have hx := Bd.exec
  have hby := Bd.bytes
  have hml : cd.maxLocals = 2 := hml0
  have hown : s.vm.findClass "java/lang/StringBuilder" = some mt.cls := findClass_of_methodNamed Bd.named
  have hlk : meth.locks = false := BodyLoose.notSynchronized Bd
  have hrt := Bd.returns
  have X0 : Stand p l e r_sap s mt args below meth cd s₁ [] 0 0 := Stand.of_body Bd
  have e0 : s₁.heap = h0 := by rw [← hh, Bd.state]; rfl
  have N0 := Fr.nil n0
  show Win p e below (Ends s (Q_sap Z a s_ bf kv zv vv_ cb nb fb bss kss zss vss cos ns fs h0 n0) r_sap.cells r_sap.slots) s₁ (entryFrame mt args 2)
  rw [hA, ef_sap]
  obtain ⟨cs, u, S0, hcs, S1, hu, S2, S3, S4⟩ := id ST
  have nva : a ≠ bf := Exa.neArv BE BV (ow hw 34 rfl)
  refine w_aloadN X0 hx hby d40_0 rfl rfl ?_
  refine w_aloadN X0 hx hby d40_1 rfl rfl ?_
  show Win _ _ _ _ s₁ (mkF mt 2 #[.val (.ref a), .val (.ref s_)] [(.ref s_), (.ref a)])
  obtain ⟨v582, _, ⟨T582, L582, k582, n582⟩, -, X582, ⟨Lc582, hQ582, l582, rfl, rfl⟩, st582⟩ := superBack X0 hx (y := y_39) hZ hown (ow hw 56 rfl) (own_same (ow hw 59 rfl) (ow hw 77 rfl) rfl (by decide)) (ow hw 57 rfl) (ow hw 58 rfl) (by decide) (backOf (W := 0) (rm_aap l Z a0 hw [] a s_ bf kv zv vv_ cb nb fb bss kss zss vss cos ns fs h0 n0 Z0 BE Bv Bc Bn Bm BV BX HW ga gv Es Fvs Fcs Vs Hs hd nbv ST O) hZ (ow hw 60 rfl) (ow hw 43 rfl) (by decide) (by decide)) e0 (Ins.self BE) (g := (mkF mt 2 #[.val (.ref a), .val (.ref s_)] [(.ref s_), (.ref a)])) rfl (by rw [hml]; rfl) (ow hw 60 rfl) (argsL := [(.ref s_)]) (rest := []) (lenOf pd_29 rfl) rfl (wz rfl) (hb hby d40_2) (fun _ _ => ⟨rfl, e0, (by decide : 0 + 1 ≤ _), (by decide : 0 + 32 ≤ _)⟩)
  replace X582 : Stand p l e _ s mt args below meth cd T582 L582 1 32 := X582
  obtain ⟨h582, e582⟩ : ∃ z, T582.heap = z := ⟨_, rfl⟩
  rw [e582] at hQ582
  obtain ⟨rfl, Nq582, K582, hs6⟩ := hQ582
  have N582 := own_fr (L := L582) l582 N0 Nq582
  have K585 : Keep h0 h582 [a, bf] := Keep.trans (Keep.refl h0 [a, bf]) K582 (allS (Or.inl (List.mem_of_getElem? (i := 0) rfl)) (allS (Or.inl (List.mem_of_getElem? (i := 1) rfl)) all0))
  refine Win.tr ?_ st582
  show Win _ _ _ _ T582 (mkF mt 5 #[.val (.ref a), .val (.ref s_)] [(.ref a)])
  refine Win.st ?_ (fun tq kq => XS.pop X582.here hx rfl (hb hby d40_5) rfl rfl kq)
  refine w_aloadN X582 hx hby d40_6 rfl rfl ?_
  show Win _ _ _ _ T582 (mkF mt 7 #[.val (.ref a), .val (.ref s_)] [(.ref a)])
  exact Win.ret X582 hx hlk e582 hrt rfl (Or.inr (Or.inr (Or.inr (Or.inr ⟨rfl, rfl, rfl⟩)))) (hb hby d40_7) (by decide) (by decide) ⟨rfl, N582, K585, hs6⟩
abbrev k41 : ByteArray := jdk_29_method_69_code
theorem d41_0 : decode k41 0 = .ok (.iload_n 0, 1) := by decide +kernel
theorem d41_1 : decode k41 1 = .ok (.iload_n 1, 1) := by decide +kernel
theorem d41_2 : decode k41 2 = .ok (.if_icmp .gt 7, 3) := by decide +kernel
theorem d41_9 : decode k41 9 = .ok (.iload_n 1, 1) := by decide +kernel
theorem d41_10 : decode k41 10 = .ok (.ireturn, 1) := by decide +kernel
theorem d41_5 : decode k41 5 = .ok (.iload_n 0, 1) := by decide +kernel
theorem d41_6 : decode k41 6 = .ok (.goto 4, 3) := by decide +kernel
abbrev y_41 : MethodName := ⟨"java/lang/Math", "min", "(II)I"⟩
abbrev r_min : Room := { frames := 0, cells := 0, slots := 0, locals := 0 }
theorem ef_min (mt : MethodId) (x : Int32) (y : Int32) : entryFrame mt #[(.int x), (.int y)] 2 = mkF mt 0 #[.val (.int x), .val (.int y)] [] := by first | (simp [entryFrame, mkF, argsToLocals, Value.category]; done) | rfl
def Q_min (Z : State) (x : Int32) (y : Int32) (h0 : Heap) (n0 : Nat) (v : Option Value) (h : Heap) (L : List Loc) : Prop := v = some (.int (own_min x y)) ∧ Fr n0 L ∧ h = h0
theorem rm_min (l : Launch) (Z : State) (a0 : Array Value) (hw : ∀ d ∈ tables_1, d.before a0 Z = true) (ws : List Jvm.Cond) (x : Int32) (y : Int32) (h0 : Heap) (n0 : Nat) (Z0 : n0 ≤ h0.size) :
    Met l y_41 k41 2 (some .int) ws r_min #[(.int x), (.int y)] Z h0 (Q_min Z x y h0 n0) := by
  refine MetFree.of_bodySF (Jvm.Free.JP.mathPlain rfl (by decide +kernel)) hisR ?_
  intro p e s mt args below meth cd s₁ Bd hml0 hP hK
  obtain ⟨hA, hZ, hh⟩ := hP
  have hx := Bd.exec
  have hby := Bd.bytes
  have hml : cd.maxLocals = 2 := hml0
  have hlk : meth.locks = false := BodyLoose.notSynchronized Bd
  have hrt := Bd.returns
  have X0 : Stand p l e r_min s mt args below meth cd s₁ [] 0 0 := Stand.of_body Bd
  have e0 : s₁.heap = h0 := by rw [← hh, Bd.state]; rfl
  have N0 := Fr.nil n0
  show Win p e below (Ends s (Q_min Z x y h0 n0) r_min.cells r_min.slots) s₁ (entryFrame mt args 2)
  rw [hA, ef_min]
  refine w_iloadN X0 hx hby d41_0 rfl ?_
  refine w_iloadN X0 hx hby d41_1 rfl ?_
  by_cases hc : y < x
  · refine Win.st ?_ (fun tq kq => XS.icmpYes X0.here hx rfl (pc0 := 2) (pc' := 9) rfl (hb hby d41_2) rfl (tlt hc).2.2.1 (by decide) (by decide) kq)
    refine w_iloadN X0 hx hby d41_9 rfl ?_
    show Win _ _ _ _ s₁ (mkF mt 10 #[.val (.int x), .val (.int y)] [(.int y)])
    exact Win.ret X0 hx hlk e0 hrt rfl (Or.inl ⟨rfl, Or.inl rfl, _, rfl⟩) (hb hby d41_10) (by decide) (by decide) ⟨by simp only [own_min, hc, if_true, if_false], N0, rfl⟩
  · refine Win.st ?_ (fun tq kq => XS.icmpNo X0.here hx rfl (hb hby d41_2) rfl (flt hc).2.2.1 kq)
    refine w_iloadN X0 hx hby d41_5 rfl ?_
    show Win _ _ _ _ s₁ (mkF mt 6 #[.val (.int x), .val (.int y)] [(.int x)])
    refine Win.st ?_ (fun tq kq => XS.goto X0.here hx rfl (pc0 := 6) (pc' := 10) rfl (hb hby d41_6) (by decide) (by decide) kq)
    show Win _ _ _ _ s₁ (mkF mt 10 #[.val (.int x), .val (.int y)] [(.int x)])
    exact Win.ret X0 hx hlk e0 hrt rfl (Or.inl ⟨rfl, Or.inl rfl, _, rfl⟩) (hb hby d41_10) (by decide) (by decide) ⟨by simp only [own_min, hc, if_true, if_false], N0, rfl⟩
abbrev k42 : ByteArray := jdk_65_method_131_code
theorem d42_0 : decode k42 0 = .ok (.iload_n 1, 1) := by decide +kernel
theorem d42_1 : decode k42 1 = .ok (.iload_n 0, 1) := by decide +kernel
theorem d42_2 : decode k42 2 = .ok (.if_icmp .ge 35, 3) := by decide +kernel
theorem d42_37 : decode k42 37 = .ok (.return_, 1) := by decide +kernel
abbrev y_42 : MethodName := ⟨"java/util/Arrays", "checkLength", "(II)V"⟩
abbrev r_chkl : Room := { frames := 0, cells := 0, slots := 0, locals := 0 }
theorem pn_7 : plainName "java/util/Arrays" = true := by first | (simp [plainName, overriddenIn]; done) | decide +kernel
theorem ef_chkl (mt : MethodId) (j : Int32) (n_ : Int32) : entryFrame mt #[(.int j), (.int n_)] 2 = mkF mt 0 #[.val (.int j), .val (.int n_)] [] := by first | (simp [entryFrame, mkF, argsToLocals, Value.category]; done) | rfl
def Q_chkl (Z : State) (j : Int32) (n_ : Int32) (h0 : Heap) (n0 : Nat) (v : Option Value) (h : Heap) (L : List Loc) : Prop := v = none ∧ Fr n0 L ∧ h = h0
theorem rm_chkl (l : Launch) (Z : State) (a0 : Array Value) (hw : ∀ d ∈ tables_1, d.before a0 Z = true) (ws : List Jvm.Cond) (j : Int32) (n_ : Int32) (h0 : Heap) (n0 : Nat) (Z0 : n0 ≤ h0.size) (h1 : ¬ n_ < j) :
    Met l y_42 k42 2 none ws r_chkl #[(.int j), (.int n_)] Z h0 (Q_chkl Z j n_ h0 n0) := by
  refine MetFree.of_bodySF (plainFor_of_name pn_7) hisR ?_
  intro p e s mt args below meth cd s₁ Bd hml0 hP hK
  obtain ⟨hA, hZ, hh⟩ := hP
  have hx := Bd.exec
  have hby := Bd.bytes
  have hml : cd.maxLocals = 2 := hml0
  have hlk : meth.locks = false := BodyLoose.notSynchronized Bd
  have hrt := Bd.returns
  have X0 : Stand p l e r_chkl s mt args below meth cd s₁ [] 0 0 := Stand.of_body Bd
  have e0 : s₁.heap = h0 := by rw [← hh, Bd.state]; rfl
  have N0 := Fr.nil n0
  show Win p e below (Ends s (Q_chkl Z j n_ h0 n0) r_chkl.cells r_chkl.slots) s₁ (entryFrame mt args 2)
  rw [hA, ef_chkl]
  refine w_iloadN X0 hx hby d42_0 rfl ?_
  refine w_iloadN X0 hx hby d42_1 rfl ?_
  refine Win.st ?_ (fun tq kq => XS.icmpYes X0.here hx rfl (pc0 := 2) (pc' := 37) rfl (hb hby d42_2) rfl (flt h1).2.1 (by decide) (by decide) kq)
  show Win _ _ _ _ s₁ (mkF mt 37 #[.val (.int j), .val (.int n_)] [])
  exact Win.retV X0 hx hlk e0 hrt (hb hby d42_37) (by decide) (by decide) ⟨rfl, N0, rfl⟩
abbrev k43 : ByteArray := jdk_65_method_133_code
theorem d43_0 : decode k43 0 = .ok (.iload_n 1, 1) := by decide +kernel
theorem d43_1 : decode k43 1 = .ok (.iload_n 2, 1) := by decide +kernel
theorem d43_2 : decode k43 2 = .ok (.invokestatic 343, 3) := by decide +kernel
theorem d43_5 : decode k43 5 = .ok (.iload_n 2, 1) := by decide +kernel
theorem d43_6 : decode k43 6 = .ok (.iload_n 1, 1) := by decide +kernel
theorem d43_7 : decode k43 7 = .ok (.isub, 1) := by decide +kernel
theorem d43_8 : decode k43 8 = .ok (.istore_n 3, 1) := by decide +kernel
theorem d43_9 : decode k43 9 = .ok (.iload_n 3, 1) := by decide +kernel
theorem d43_10 : decode k43 10 = .ok (.newarray .byte, 2) := by decide +kernel
theorem d43_12 : decode k43 12 = .ok (.astore 4, 2) := by decide +kernel
theorem d43_14 : decode k43 14 = .ok (.aload_n 0, 1) := by decide +kernel
theorem d43_15 : decode k43 15 = .ok (.iload_n 1, 1) := by decide +kernel
theorem d43_16 : decode k43 16 = .ok (.aload 4, 2) := by decide +kernel
theorem d43_18 : decode k43 18 = .ok (.iconst 0, 1) := by decide +kernel
theorem d43_19 : decode k43 19 = .ok (.aload_n 0, 1) := by decide +kernel
theorem d43_20 : decode k43 20 = .ok (.arraylength, 1) := by decide +kernel
theorem d43_21 : decode k43 21 = .ok (.iload_n 1, 1) := by decide +kernel
theorem d43_22 : decode k43 22 = .ok (.isub, 1) := by decide +kernel
theorem d43_23 : decode k43 23 = .ok (.iload_n 3, 1) := by decide +kernel
theorem d43_24 : decode k43 24 = .ok (.invokestatic 304, 3) := by decide +kernel
theorem pd_30 : parseMethodDescriptor "(II)I" = some ⟨[.int, .int], some .int⟩ := by decide +kernel
theorem d43_27 : decode k43 27 = .ok (.invokestatic 150, 3) := by decide +kernel
theorem d43_30 : decode k43 30 = .ok (.aload 4, 2) := by decide +kernel
theorem d43_32 : decode k43 32 = .ok (.areturn, 1) := by decide +kernel
abbrev y_43 : MethodName := ⟨"java/util/Arrays", "copyOfRangeByte", "([BII)[B"⟩
abbrev r_crb : Room := { frames := 1, cells := 1, slots := 32, locals := 18 }
theorem ef_crb (mt : MethodId) (b : Addr) (w_ : Nat) : entryFrame mt #[(.ref b), (.int (0 : Int32)), (.int (own_I w_))] 5 = mkF mt 0 #[.val (.ref b), .val (.int (0 : Int32)), .val (.int (own_I w_)), .unset, .unset] [] := by first | (simp [entryFrame, mkF, argsToLocals, Value.category]; done) | rfl
def Q_crb (Z : State) (b : Addr) (k : ClassId) (zN : Nat) (vs : List Value) (w_ : Nat) (h0 : Heap) (n0 : Nat) (v : Option Value) (h : Heap) (L : List Loc) : Prop := ∃ r : Addr, v = some (.ref r) ∧ Fr n0 L ∧ Keep h0 h [] ∧ n0 ≤ r ∧ h0.size ≤ r ∧ ∃ (k : ClassId) (vs' : List Value), Arv Z h r k .byte (own_I w_) vs' (.int (0 : Int32)) ∧ ∀ i, i < w_ → vs'.getD i (.int (0 : Int32)) = vs.getD i (.int (0 : Int32))
theorem rm_crb (l : Launch) (Z : State) (a0 : Array Value) (hw : ∀ d ∈ tables_1, d.before a0 Z = true) (ws : List Jvm.Cond) (b : Addr) (k : ClassId) (zN : Nat) (vs : List Value) (w_ : Nat) (h0 : Heap) (n0 : Nat) (Z0 : n0 ≤ h0.size) (V : Arv Z h0 b k .byte (own_I zN) vs (.int (0 : Int32))) (hw_ : w_ ≤ zN) (hz : zN ≤ 32) :
    Met l y_43 k43 5 (some (.array .byte)) ws r_crb #[(.ref b), (.int (0 : Int32)), (.int (own_I w_))] Z h0 (Q_crb Z b k zN vs w_ h0 n0) := by
  refine MetFree.of_bodySF (plainFor_of_name pn_7) hisR ?_
  intro p e s mt args below meth cd s₁ Bd hml0 hP hK
  obtain ⟨hA, hZ, hh⟩ := hP
  have hx := Bd.exec
  have hby := Bd.bytes
  have hml : cd.maxLocals = 5 := hml0
  have hown : s.vm.findClass "java/util/Arrays" = some mt.cls := findClass_of_methodNamed Bd.named
  have hlk : meth.locks = false := BodyLoose.notSynchronized Bd
  have hrt := Bd.returns
  have X0 : Stand p l e r_crb s mt args below meth cd s₁ [] 0 0 := Stand.of_body Bd
  have e0 : s₁.heap = h0 := by rw [← hh, Bd.state]; rfl
  have N0 := Fr.nil n0
  show Win p e below (Ends s (Q_crb Z b k zN vs w_ h0 n0) r_crb.cells r_crb.slots) s₁ (entryFrame mt args 5)
  rw [hA, ef_crb]
  refine w_iloadN X0 hx hby d43_0 rfl ?_
  refine w_iloadN X0 hx hby d43_1 rfl ?_
  show Win _ _ _ _ s₁ (mkF mt 2 #[.val (.ref b), .val (.int (0 : Int32)), .val (.int (own_I w_)), .unset, .unset] [(.int (own_I w_)), (.int (0 : Int32))])
  obtain ⟨v586, _, ⟨T586, L586, k586, n586⟩, -, X586, ⟨Lc586, hQ586, l586, rfl, rfl⟩, st586⟩ := Jvm.LawKit.callS X0 hx (y := y_42) hown (mvT hZ (ow hw 138 rfl)) (mvT hZ (ow hw 139 rfl)) (mvT hZ (ow hw 133 rfl)) (mvT hZ (ow hw 140 rfl)) (by decide) (backOf (W := 0) (rm_chkl l Z a0 hw [] (0 : Int32) (own_I w_) h0 n0 Z0 (own_I_nn (by omega))) hZ (ow hw 140 rfl) (ow hw 133 rfl) (by decide) (by decide)) (g := (mkF mt 2 #[.val (.ref b), .val (.int (0 : Int32)), .val (.int (own_I w_)), .unset, .unset] [(.int (own_I w_)), (.int (0 : Int32))])) rfl (by rw [hml]; rfl) (argsL := [(.int (0 : Int32)), (.int (own_I w_))]) (rest := []) (lenOf pd_3 rfl) rfl (wz rfl) (hb hby d43_2) (fun _ _ => ⟨rfl, e0, (by decide : 0 + 0 ≤ _), (by decide : 0 + 0 ≤ _)⟩)
  replace X586 : Stand p l e _ s mt args below meth cd T586 L586 0 0 := X586
  obtain ⟨rfl, Nq586, eh586⟩ := hQ586
  have N586 := own_fr (L := L586) l586 N0 Nq586
  refine Win.st ?_ st586
  refine w_iloadN X586 hx hby d43_5 rfl ?_
  refine w_iloadN X586 hx hby d43_6 rfl ?_
  refine Win.st ?_ (fun tq kq => XS.isub X586.here hx rfl (hb hby d43_7) rfl kq)
  show Win _ _ _ _ T586 (mkF mt 8 #[.val (.ref b), .val (.int (0 : Int32)), .val (.int (own_I w_)), .unset, .unset] [(.int ((own_I w_) - (0 : Int32)))])
  rw [own_sub0]
  show Win _ _ _ _ T586 (mkF mt 8 #[.val (.ref b), .val (.int (0 : Int32)), .val (.int (own_I w_)), .unset, .unset] [(.int (own_I w_))])
  refine Win.st ?_ (fun tq kq => XS.istoreN X586.here hx rfl (hb hby d43_8) rfl (l' := #[.val (.ref b), .val (.int (0 : Int32)), .val (.int (own_I w_)), .val (.int (own_I w_)), .unset]) rfl kq)
  refine w_iloadN X586 hx hby d43_9 rfl ?_
  obtain ⟨T587, h587, k587, X587, e587, E587, A587, st587⟩ := newP X586 hx hZ (ow hw 19 rfl) eh586 (g := (mkF mt 10 #[.val (.ref b), .val (.int (0 : Int32)), .val (.int (own_I w_)), .val (.int (own_I w_)), .unset] [(.int (own_I w_))])) rfl (hb hby d43_10) rfl (own_I_nn (by omega)) (cap := 32) (by rw [own_I_cl (n := w_) (by omega)]; omega) (by decide) (by decide) (by decide)
  obtain ⟨b587, gq587⟩ : ∃ z, z = h0.size := ⟨_, rfl⟩
  rw [← gq587] at A587 st587
  have g589 : n0 ≤ b587 := own_newle Z0 gq587
  have z590 : h0.size ≤ b587 := own_newle (Keep.refl h0 []).1 gq587
  have ke587 := own_kext E587
  replace X587 : Stand p l e _ s mt args below meth cd T587 _ 1 32 := X587
  have f591_24 := V.keep ke587 nin0
  have Z592 : n0 ≤ h587.size := Nat.le_trans Z0 ke587.1
  have K593 : Keep h0 h587 [] := Keep.trans (Keep.refl h0 []) ke587 all0
  have V587 : Arv Z h587 b587 k587 .byte (own_I w_) (List.replicate w_ (.int (0 : Int32))) (.int (0 : Int32)) := (Arv.new A587 (own_I_nn (by omega))).pad (pad_rep [] (.int (0 : Int32)) w_)
  refine Win.st ?_ st587
  show Win _ _ _ _ T587 (mkF mt 12 #[.val (.ref b), .val (.int (0 : Int32)), .val (.int (own_I w_)), .val (.int (own_I w_)), .unset] [(.ref b587)])
  refine Win.st ?_ (fun tq kq => XS.astore X587.here hx rfl (hb hby d43_12) rfl rfl (l' := #[.val (.ref b), .val (.int (0 : Int32)), .val (.int (own_I w_)), .val (.int (own_I w_)), .val (.ref b587)]) rfl kq)
  refine w_aloadN X587 hx hby d43_14 rfl rfl ?_
  refine w_iloadN X587 hx hby d43_15 rfl ?_
  refine w_aload X587 hx hby d43_16 rfl rfl ?_
  refine w_iconst X587 hx hby d43_18 ?_
  refine w_aloadN X587 hx hby d43_19 rfl rfl ?_
  refine Win.st ?_ (own_alen (g := (mkF mt 20 #[.val (.ref b), .val (.int (0 : Int32)), .val (.int (own_I w_)), .val (.int (own_I w_)), .val (.ref b587)] [(.ref b), (.int (0 : Int32)), (.ref b587), (.int (0 : Int32)), (.ref b)])) X587 hx hZ e587 f591_24 rfl rfl (hb hby d43_20))
  refine w_iloadN X587 hx hby d43_21 rfl ?_
  refine Win.st ?_ (fun tq kq => XS.isub X587.here hx rfl (hb hby d43_22) rfl kq)
  refine w_iloadN X587 hx hby d43_23 rfl ?_
  show Win _ _ _ _ T587 (mkF mt 24 #[.val (.ref b), .val (.int (0 : Int32)), .val (.int (own_I w_)), .val (.int (own_I w_)), .val (.ref b587)] [(.int (own_I w_)), (.int ((own_I zN) - (0 : Int32))), (.int (0 : Int32)), (.ref b587), (.int (0 : Int32)), (.ref b)])
  rw [own_sub0]
  show Win _ _ _ _ T587 (mkF mt 24 #[.val (.ref b), .val (.int (0 : Int32)), .val (.int (own_I w_)), .val (.int (own_I w_)), .val (.ref b587)] [(.int (own_I w_)), (.int (own_I zN)), (.int (0 : Int32)), (.ref b587), (.int (0 : Int32)), (.ref b)])
  obtain ⟨v594, _, ⟨T594, L594, k594, n594⟩, -, X594, ⟨Lc594, hQ594, l594, rfl, rfl⟩, st594⟩ := Jvm.LawKit.callS X587 hx (y := y_41) hown (mvT hZ (ow hw 141 rfl)) (mvT hZ (ow hw 142 rfl)) (mvT hZ (ow hw 143 rfl)) (mvT hZ (ow hw 144 rfl)) (by decide) (backOf (W := 4) (rm_min l Z a0 hw [] (own_I zN) (own_I w_) h587 n0 Z592 ) hZ (ow hw 144 rfl) (ow hw 143 rfl) (by decide) (by decide)) (g := (mkF mt 24 #[.val (.ref b), .val (.int (0 : Int32)), .val (.int (own_I w_)), .val (.int (own_I w_)), .val (.ref b587)] [(.int (own_I w_)), (.int (own_I zN)), (.int (0 : Int32)), (.ref b587), (.int (0 : Int32)), (.ref b)])) rfl (by rw [hml]; rfl) (argsL := [(.int (own_I zN)), (.int (own_I w_))]) (rest := [(.int (0 : Int32)), (.ref b587), (.int (0 : Int32)), (.ref b)]) (lenOf pd_30 rfl) rfl (wz rfl) (hb hby d43_24) (fun _ _ => ⟨rfl, e587, (by decide : 1 + 0 ≤ _), (by decide : 32 + 0 ≤ _)⟩)
  replace X594 : Stand p l e _ s mt args below meth cd T594 L594 1 32 := X594
  obtain ⟨rfl, Nq594, eh594⟩ := hQ594
  have N594 := own_fr (L := L594) l594 N586 Nq594
  rw [own_minI hw_ (by omega)] at st594
  refine Win.st ?_ st594
  show Win _ _ _ _ T594 (mkF mt 27 #[.val (.ref b), .val (.int (0 : Int32)), .val (.int (own_I w_)), .val (.int (own_I w_)), .val (.ref b587)] [(.int (own_I w_)), (.int (0 : Int32)), (.ref b587), (.int (0 : Int32)), (.ref b)])
  obtain ⟨T595, h595, L595, X595, e595, N595, kp595, V595, st595⟩ := cpA X594 hx hZ hown (ow hw 145 rfl) (ow hw 98 rfl) (ow hw 96 rfl) (ow hw 97 rfl) eh594 f591_24 V587 (Or.inl ⟨rfl, rfl⟩) (by decide) (by decide) (own_I_nn (by omega)) (by rw [own_cl0, own_I_cl (n := w_) (by omega), own_I_cl (n := zN) (by omega)]; omega) (by rw [own_cl0, own_I_cl (n := w_) (by omega)]; omega) (us := ((List.range w_).map fun i => vs.getD (0 + i) (.int (0 : Int32)))) (by rw [own_cl0, own_I_cl (n := w_) (by omega)]) (by rw [own_cl0, own_I_cl (n := w_) (by omega), List.length_replicate]; omega) N594 g589 (g := (mkF mt 27 #[.val (.ref b), .val (.int (0 : Int32)), .val (.int (own_I w_)), .val (.int (own_I w_)), .val (.ref b587)] [(.int (own_I w_)), (.int (0 : Int32)), (.ref b587), (.int (0 : Int32)), (.ref b)])) rfl (by rw [hml]; rfl) rfl (hb hby d43_27) (by decide) (W := 0) (by show 2 * 0 + _ ≤ _; exact Nat.le_of_eq rfl) (by decide)
  rw [own_cl0, own_I_cl (n := w_) (by omega)] at V595
  have K598 : Keep h0 h595 [] := Keep.trans K593 kp595 (allS (Or.inr z590) all0)
  refine Win.st ?_ st595
  refine w_aload X595 hx hby d43_30 rfl rfl ?_
  show Win _ _ _ _ T595 (mkF mt 32 #[.val (.ref b), .val (.int (0 : Int32)), .val (.int (own_I w_)), .val (.int (own_I w_)), .val (.ref b587)] [(.ref b587)])
  exact Win.ret X595 hx hlk e595 hrt rfl (Or.inr (Or.inr (Or.inr (Or.inr ⟨rfl, rfl, rfl⟩)))) (hb hby d43_32) (by decide) (by decide) ⟨_, rfl, N595, K598, g589, z590, _, _, V595, own_copy0 (by simp)⟩
abbrev k44 : ByteArray := jdk_65_method_132_code
theorem d44_0 : decode k44 0 = .ok (.iload_n 1, 1) := by decide +kernel
theorem d44_1 : decode k44 1 = .ok (.ifCond .ne 9, 3) := by decide +kernel
theorem d44_4 : decode k44 4 = .ok (.iload_n 2, 1) := by decide +kernel
theorem d44_5 : decode k44 5 = .ok (.aload_n 0, 1) := by decide +kernel
theorem d44_6 : decode k44 6 = .ok (.arraylength, 1) := by decide +kernel
theorem d44_7 : decode k44 7 = .ok (.if_icmp .eq 10, 3) := by decide +kernel
theorem d44_17 : decode k44 17 = .ok (.aload_n 0, 1) := by decide +kernel
theorem d44_18 : decode k44 18 = .ok (.invokevirtual 310, 3) := by decide +kernel
theorem d44_21 : decode k44 21 = .ok (.checkcast 311, 3) := by decide +kernel
theorem d44_24 : decode k44 24 = .ok (.areturn, 1) := by decide +kernel
theorem d44_10 : decode k44 10 = .ok (.aload_n 0, 1) := by decide +kernel
theorem d44_11 : decode k44 11 = .ok (.iload_n 1, 1) := by decide +kernel
theorem d44_12 : decode k44 12 = .ok (.iload_n 2, 1) := by decide +kernel
theorem d44_13 : decode k44 13 = .ok (.invokestatic 339, 3) := by decide +kernel
theorem pd_31 : parseMethodDescriptor "([BII)[B" = some ⟨[(.array .byte), .int, .int], some (.array .byte)⟩ := by decide +kernel
theorem d44_16 : decode k44 16 = .ok (.areturn, 1) := by decide +kernel
abbrev y_44 : MethodName := ⟨"java/util/Arrays", "copyOfRange", "([BII)[B"⟩
abbrev r_cor : Room := { frames := 2, cells := 1, slots := 32, locals := 34 }
theorem ef_cor (mt : MethodId) (b : Addr) (w_ : Nat) : entryFrame mt #[(.ref b), (.int (0 : Int32)), (.int (own_I w_))] 3 = mkF mt 0 #[.val (.ref b), .val (.int (0 : Int32)), .val (.int (own_I w_))] [] := by first | (simp [entryFrame, mkF, argsToLocals, Value.category]; done) | rfl
def Q_cor (Z : State) (b : Addr) (k : ClassId) (zN : Nat) (vs : List Value) (w_ : Nat) (h0 : Heap) (n0 : Nat) (v : Option Value) (h : Heap) (L : List Loc) : Prop := ∃ r : Addr, v = some (.ref r) ∧ Fr n0 L ∧ Keep h0 h [] ∧ n0 ≤ r ∧ h0.size ≤ r ∧ ∃ (k : ClassId) (vs' : List Value), Arv Z h r k .byte (own_I w_) vs' (.int (0 : Int32)) ∧ ∀ i, i < w_ → vs'.getD i (.int (0 : Int32)) = vs.getD i (.int (0 : Int32))
theorem rm_cor (l : Launch) (Z : State) (a0 : Array Value) (hw : ∀ d ∈ tables_1, d.before a0 Z = true) (ws : List Jvm.Cond) (b : Addr) (k : ClassId) (zN : Nat) (vs : List Value) (w_ : Nat) (h0 : Heap) (n0 : Nat) (Z0 : n0 ≤ h0.size) (V : Arv Z h0 b k .byte (own_I zN) vs (.int (0 : Int32))) (hw_ : w_ ≤ zN) (hz : zN ≤ 32) (Ex : Exa Z h0 b "[B") :
    Met l y_44 k44 3 (some (.array .byte)) ws r_cor #[(.ref b), (.int (0 : Int32)), (.int (own_I w_))] Z h0 (Q_cor Z b k zN vs w_ h0 n0) := by
  refine MetFree.of_bodySF (plainFor_of_name pn_7) hisR ?_
  intro p e s mt args below meth cd s₁ Bd hml0 hP hK
  obtain ⟨hA, hZ, hh⟩ := hP
  have hx := Bd.exec
  have hby := Bd.bytes
  have hml : cd.maxLocals = 3 := hml0
  have hown : s.vm.findClass "java/util/Arrays" = some mt.cls := findClass_of_methodNamed Bd.named
  have hlk : meth.locks = false := BodyLoose.notSynchronized Bd
  have hrt := Bd.returns
  have X0 : Stand p l e r_cor s mt args below meth cd s₁ [] 0 0 := Stand.of_body Bd
  have e0 : s₁.heap = h0 := by rw [← hh, Bd.state]; rfl
  have N0 := Fr.nil n0
  show Win p e below (Ends s (Q_cor Z b k zN vs w_ h0 n0) r_cor.cells r_cor.slots) s₁ (entryFrame mt args 3)
  rw [hA, ef_cor]
  refine w_iloadN X0 hx hby d44_0 rfl ?_
  refine Win.st ?_ (fun tq kq => XS.ifNo X0.here hx rfl (hb hby d44_1) rfl ((if0 _ _).trans (teq (rfl : (0 : Int32) = (0 : Int32))).2) kq)
  refine w_iloadN X0 hx hby d44_4 rfl ?_
  refine w_aloadN X0 hx hby d44_5 rfl rfl ?_
  refine Win.st ?_ (own_alen (g := (mkF mt 6 #[.val (.ref b), .val (.int (0 : Int32)), .val (.int (own_I w_))] [(.ref b), (.int (own_I w_))])) X0 hx hZ e0 V rfl rfl (hb hby d44_6))
  show Win _ _ _ _ s₁ (mkF mt 7 #[.val (.ref b), .val (.int (0 : Int32)), .val (.int (own_I w_))] [(.int (own_I zN)), (.int (own_I w_))])
  by_cases hc7 : (own_I w_) = (own_I zN)
  · refine Win.st ?_ (fun tq kq => XS.icmpYes X0.here hx rfl (pc0 := 7) (pc' := 17) rfl (hb hby d44_7) rfl (teq hc7).1 (by decide) (by decide) kq)
    refine w_aloadN X0 hx hby d44_17 rfl rfl ?_
    show Win _ _ _ _ s₁ (mkF mt 18 #[.val (.ref b), .val (.int (0 : Int32)), .val (.int (own_I w_))] [(.ref b)])
    obtain ⟨T599, h599, X599, e599, E599, A599, Ey599, st599⟩ := cloneH X0 hx hZ hown (ow hw 307 rfl) (ow hw 308 rfl) (ow hw 312 rfl) (ow hw 310 rfl) (ow hw 311 rfl) (ow hw 313 rfl) e0 (Arv.arh V) Ex (g := (mkF mt 18 #[.val (.ref b), .val (.int (0 : Int32)), .val (.int (own_I w_))] [(.ref b)])) rfl (by rw [hml]; rfl) rfl (hb hby d44_18) (by decide) (W := 0) (cap := 32) (by show 2 * 0 + _ ≤ _; exact Nat.le_of_eq rfl) (by decide) (by rw [own_I_cl (n := zN) (by omega)]; omega) (by decide) (by decide)
    obtain ⟨b599, gq599⟩ : ∃ z, z = h0.size := ⟨_, rfl⟩
    rw [← gq599] at A599 Ey599 st599
    have g601 : n0 ≤ b599 := own_newle Z0 gq599
    have z602 : h0.size ≤ b599 := own_newle (Keep.refl h0 []).1 gq599
    have ke599 := own_kext E599
    replace X599 : Stand p l e _ s mt args below meth cd T599 _ 1 32 := X599
    have K605 : Keep h0 h599 [] := Keep.trans (Keep.refl h0 []) ke599 all0
    have V599 : Arv Z h599 b599 k .byte (own_I zN) vs (.int (0 : Int32)) := A599
    refine Win.st ?_ st599
    show Win _ _ _ _ T599 (mkF mt 21 #[.val (.ref b), .val (.int (0 : Int32)), .val (.int (own_I w_))] [(.ref b599)])
    obtain ⟨T606, X606, e606, st606⟩ := castY X599 hx hZ hown (ow hw 314 rfl) e599 (Ins.self Ey599) (g := (mkF mt 21 #[.val (.ref b), .val (.int (0 : Int32)), .val (.int (own_I w_))] [(.ref b599)])) rfl rfl (hb hby d44_21)
    refine Win.st ?_ st606
    show Win _ _ _ _ T606 (mkF mt 24 #[.val (.ref b), .val (.int (0 : Int32)), .val (.int (own_I w_))] [(.ref b599)])
    exact Win.ret X606 hx hlk e606 hrt rfl (Or.inr (Or.inr (Or.inr (Or.inr ⟨rfl, rfl, rfl⟩)))) (hb hby d44_24) (by decide) (by decide) ⟨_, rfl, N0, K605, g601, z602, k, vs, by rw [hc7]; exact V599, fun i hi => rfl⟩
  · refine Win.st ?_ (fun tq kq => XS.icmpNo X0.here hx rfl (hb hby d44_7) rfl (feq hc7).1 kq)
    refine w_aloadN X0 hx hby d44_10 rfl rfl ?_
    refine w_iloadN X0 hx hby d44_11 rfl ?_
    refine w_iloadN X0 hx hby d44_12 rfl ?_
    show Win _ _ _ _ s₁ (mkF mt 13 #[.val (.ref b), .val (.int (0 : Int32)), .val (.int (own_I w_))] [(.int (own_I w_)), (.int (0 : Int32)), (.ref b)])
    obtain ⟨v607, _, ⟨T607, L607, k607, n607⟩, -, X607, ⟨Lc607, hQ607, l607, rfl, rfl⟩, st607⟩ := Jvm.LawKit.callS X0 hx (y := y_43) hown (mvT hZ (ow hw 135 rfl)) (mvT hZ (ow hw 136 rfl)) (mvT hZ (ow hw 133 rfl)) (mvT hZ (ow hw 137 rfl)) (by decide) (backOf (W := 0) (rm_crb l Z a0 hw [] b k zN vs w_ h0 n0 Z0 V hw_ hz) hZ (ow hw 137 rfl) (ow hw 133 rfl) (by decide) (by decide)) (g := (mkF mt 13 #[.val (.ref b), .val (.int (0 : Int32)), .val (.int (own_I w_))] [(.int (own_I w_)), (.int (0 : Int32)), (.ref b)])) rfl (by rw [hml]; rfl) (argsL := [(.ref b), (.int (0 : Int32)), (.int (own_I w_))]) (rest := []) (lenOf pd_31 rfl) rfl (wz rfl) (hb hby d44_13) (fun _ _ => ⟨rfl, e0, (by decide : 0 + 1 ≤ _), (by decide : 0 + 32 ≤ _)⟩)
    replace X607 : Stand p l e _ s mt args below meth cd T607 L607 1 32 := X607
    obtain ⟨h607, e607⟩ : ∃ z, T607.heap = z := ⟨_, rfl⟩
    rw [e607] at hQ607
    obtain ⟨rr, rfl, Nq607, K607, gr, zr, kr, vr, Vr, hvr⟩ := hQ607
    have N607 := own_fr (L := L607) l607 N0 Nq607
    have K610 : Keep h0 h607 [] := Keep.trans (Keep.refl h0 []) K607 all0
    refine Win.st ?_ st607
    show Win _ _ _ _ T607 (mkF mt 16 #[.val (.ref b), .val (.int (0 : Int32)), .val (.int (own_I w_))] [(.ref rr)])
    exact Win.ret X607 hx hlk e607 hrt rfl (Or.inr (Or.inr (Or.inr (Or.inr ⟨rfl, rfl, rfl⟩)))) (hb hby d44_16) (by decide) (by decide) ⟨_, rfl, N607, K610, gr, zr, kr, vr, Vr, hvr⟩
abbrev k45 : ByteArray := jdk_68_method_64_code
theorem d45_0 : decode k45 0 = .ok (.aload_n 0, 1) := by decide +kernel
theorem d45_1 : decode k45 1 = .ok (.getfield 15, 3) := by decide +kernel
theorem d45_4 : decode k45 4 = .ok (.areturn, 1) := by decide +kernel
abbrev y_45 : MethodName := ⟨"java/lang/AbstractStringBuilder", "getValue", "()[B"⟩
abbrev r_getv : Room := { frames := 0, cells := 0, slots := 0, locals := 0 }
theorem ef_getv (mt : MethodId) (a : Addr) : entryFrame mt #[(.ref a)] 1 = mkF mt 0 #[.val (.ref a)] [] := by first | (simp [entryFrame, mkF, argsToLocals, Value.category]; done) | rfl
def Q_getv (Z : State) (a : Addr) (bf : Addr) (h0 : Heap) (n0 : Nat) (v : Option Value) (h : Heap) (L : List Loc) : Prop := v = some (.ref bf) ∧ Fr n0 L ∧ h = h0
theorem rm_getv (l : Launch) (Z : State) (a0 : Array Value) (hw : ∀ d ∈ tables_1, d.before a0 Z = true) (ws : List Jvm.Cond) (a : Addr) (bf : Addr) (h0 : Heap) (n0 : Nat) (Z0 : n0 ≤ h0.size) (Bv : Fld Z h0 a "java/lang/AbstractStringBuilder" "value" "[B" (.ref bf)) :
    Met l y_45 k45 1 (some (.array .byte)) ws r_getv #[(.ref a)] Z h0 (Q_getv Z a bf h0 n0) := by
  refine MetFree.of_bodySF (plainFor_of_name pn_1) hisR ?_
  intro p e s mt args below meth cd s₁ Bd hml0 hP hK
  obtain ⟨hA, hZ, hh⟩ := hP
  have hx := Bd.exec
  have hby := Bd.bytes
  have hml : cd.maxLocals = 1 := hml0
  have hown : s.vm.findClass "java/lang/AbstractStringBuilder" = some mt.cls := findClass_of_methodNamed Bd.named
  have hlk : meth.locks = false := BodyLoose.notSynchronized Bd
  have hrt := Bd.returns
  have X0 : Stand p l e r_getv s mt args below meth cd s₁ [] 0 0 := Stand.of_body Bd
  have e0 : s₁.heap = h0 := by rw [← hh, Bd.state]; rfl
  have N0 := Fr.nil n0
  show Win p e below (Ends s (Q_getv Z a bf h0 n0) r_getv.cells r_getv.slots) s₁ (entryFrame mt args 1)
  rw [hA, ef_getv]
  refine w_aloadN X0 hx hby d45_0 rfl rfl ?_
  obtain ⟨T611, X611, e611, st611⟩ := getF X0 hx hZ hown (host := "") (Or.inl (ow hw 47 rfl)) Via.refl e0 Bv (g := (mkF mt 1 #[.val (.ref a)] [(.ref a)])) rfl rfl (hb hby d45_1)
  refine Win.st ?_ st611
  show Win _ _ _ _ T611 (mkF mt 4 #[.val (.ref a)] [(.ref bf)])
  exact Win.ret X611 hx hlk e611 hrt rfl (Or.inr (Or.inr (Or.inr (Or.inr ⟨rfl, rfl, rfl⟩)))) (hb hby d45_4) (by decide) (by decide) ⟨rfl, N0, rfl⟩
abbrev k46 : ByteArray := jdk_68_method_6_code
theorem d46_0 : decode k46 0 = .ok (.aload_n 0, 1) := by decide +kernel
theorem d46_1 : decode k46 1 = .ok (.getfield 79, 3) := by decide +kernel
theorem d46_4 : decode k46 4 = .ok (.ireturn, 1) := by decide +kernel
abbrev y_46 : MethodName := ⟨"java/lang/AbstractStringBuilder", "length", "()I"⟩
abbrev r_blen : Room := { frames := 0, cells := 0, slots := 0, locals := 0 }
theorem ef_blen (mt : MethodId) (a : Addr) : entryFrame mt #[(.ref a)] 1 = mkF mt 0 #[.val (.ref a)] [] := by first | (simp [entryFrame, mkF, argsToLocals, Value.category]; done) | rfl
def Q_blen (Z : State) (a : Addr) (x : Int32) (h0 : Heap) (n0 : Nat) (v : Option Value) (h : Heap) (L : List Loc) : Prop := v = some (.int x) ∧ Fr n0 L ∧ h = h0
theorem rm_blen (l : Launch) (Z : State) (a0 : Array Value) (hw : ∀ d ∈ tables_1, d.before a0 Z = true) (ws : List Jvm.Cond) (a : Addr) (x : Int32) (h0 : Heap) (n0 : Nat) (Z0 : n0 ≤ h0.size) (Bn : Fld Z h0 a "java/lang/AbstractStringBuilder" "count" "I" (.int x)) :
    Met l y_46 k46 1 (some .int) ws r_blen #[(.ref a)] Z h0 (Q_blen Z a x h0 n0) := by
  refine MetFree.of_bodySF (plainFor_of_name pn_1) hisR ?_
  intro p e s mt args below meth cd s₁ Bd hml0 hP hK
  obtain ⟨hA, hZ, hh⟩ := hP
  have hx := Bd.exec
  have hby := Bd.bytes
  have hml : cd.maxLocals = 1 := hml0
  have hown : s.vm.findClass "java/lang/AbstractStringBuilder" = some mt.cls := findClass_of_methodNamed Bd.named
  have hlk : meth.locks = false := BodyLoose.notSynchronized Bd
  have hrt := Bd.returns
  have X0 : Stand p l e r_blen s mt args below meth cd s₁ [] 0 0 := Stand.of_body Bd
  have e0 : s₁.heap = h0 := by rw [← hh, Bd.state]; rfl
  have N0 := Fr.nil n0
  show Win p e below (Ends s (Q_blen Z a x h0 n0) r_blen.cells r_blen.slots) s₁ (entryFrame mt args 1)
  rw [hA, ef_blen]
  refine w_aloadN X0 hx hby d46_0 rfl rfl ?_
  obtain ⟨T612, X612, e612, st612⟩ := getF X0 hx hZ hown (host := "") (Or.inl (ow hw 72 rfl)) Via.refl e0 Bn (g := (mkF mt 1 #[.val (.ref a)] [(.ref a)])) rfl rfl (hb hby d46_1)
  refine Win.st ?_ st612
  show Win _ _ _ _ T612 (mkF mt 4 #[.val (.ref a)] [(.int x)])
  exact Win.ret X612 hx hlk e612 hrt rfl (Or.inl ⟨rfl, Or.inl rfl, _, rfl⟩) (hb hby d46_4) (by decide) (by decide) ⟨rfl, N0, rfl⟩
abbrev k47 : ByteArray := jdk_67_method_93_code
theorem d47_0 : decode k47 0 = .ok (.aload_n 0, 1) := by decide +kernel
theorem d47_1 : decode k47 1 = .ok (.invokespecial 343, 3) := by decide +kernel
theorem d47_4 : decode k47 4 = .ok (.ireturn, 1) := by decide +kernel
abbrev y_47 : MethodName := ⟨"java/lang/StringBuilder", "length", "()I"⟩
abbrev r_sblen : Room := { frames := 1, cells := 0, slots := 0, locals := 12 }
theorem ef_sblen (mt : MethodId) (a : Addr) : entryFrame mt #[(.ref a)] 1 = mkF mt 0 #[.val (.ref a)] [] := by first | (simp [entryFrame, mkF, argsToLocals, Value.category]; done) | rfl
def Q_sblen (Z : State) (a : Addr) (x : Int32) (h0 : Heap) (n0 : Nat) (v : Option Value) (h : Heap) (L : List Loc) : Prop := v = some (.int x) ∧ Fr n0 L ∧ h = h0
theorem rm_sblen (l : Launch) (Z : State) (a0 : Array Value) (hw : ∀ d ∈ tables_1, d.before a0 Z = true) (ws : List Jvm.Cond) (a : Addr) (x : Int32) (h0 : Heap) (n0 : Nat) (Z0 : n0 ≤ h0.size) (BE : Exa Z h0 a "java/lang/StringBuilder") (Bn : Fld Z h0 a "java/lang/AbstractStringBuilder" "count" "I" (.int x)) :
    Met l y_47 k47 1 (some .int) ws r_sblen #[(.ref a)] Z h0 (Q_sblen Z a x h0 n0) := by
  refine MetFree.of_bodySF (plainFor_of_name pn_6) hisR ?_
  intro p e s mt args below meth cd s₁ Bd hml0 hP hK
  obtain ⟨hA, hZ, hh⟩ := hP
  have hx := Bd.exec
  have hby := Bd.bytes
  have hml : cd.maxLocals = 1 := hml0
  have hown : s.vm.findClass "java/lang/StringBuilder" = some mt.cls := findClass_of_methodNamed Bd.named
  have hlk : meth.locks = false := BodyLoose.notSynchronized Bd
  have hrt := Bd.returns
  have X0 : Stand p l e r_sblen s mt args below meth cd s₁ [] 0 0 := Stand.of_body Bd
  have e0 : s₁.heap = h0 := by rw [← hh, Bd.state]; rfl
  have N0 := Fr.nil n0
  show Win p e below (Ends s (Q_sblen Z a x h0 n0) r_sblen.cells r_sblen.slots) s₁ (entryFrame mt args 1)
  rw [hA, ef_sblen]
  refine w_aloadN X0 hx hby d47_0 rfl rfl ?_
  show Win _ _ _ _ s₁ (mkF mt 1 #[.val (.ref a)] [(.ref a)])
  obtain ⟨v613, _, ⟨T613, L613, k613, n613⟩, -, X613, ⟨Lc613, hQ613, l613, rfl, rfl⟩, st613⟩ := superBack X0 hx (y := y_46) hZ hown (ow hw 124 rfl) (own_same (ow hw 119 rfl) (ow hw 77 rfl) rfl (by decide)) (ow hw 120 rfl) (ow hw 58 rfl) (by decide) (backOf (W := 0) (rm_blen l Z a0 hw [] a x h0 n0 Z0 Bn) hZ (ow hw 125 rfl) (ow hw 43 rfl) (by decide) (by decide)) e0 (Ins.self BE) (g := (mkF mt 1 #[.val (.ref a)] [(.ref a)])) rfl (by rw [hml]; rfl) (ow hw 125 rfl) (argsL := []) (rest := []) (lenOf pd_27 rfl) rfl (wz rfl) (hb hby d47_1) (fun _ _ => ⟨rfl, e0, (by decide : 0 + 0 ≤ _), (by decide : 0 + 0 ≤ _)⟩)
  replace X613 : Stand p l e _ s mt args below meth cd T613 L613 0 0 := X613
  obtain ⟨rfl, Nq613, eh613⟩ := hQ613
  have N613 := own_fr (L := L613) l613 N0 Nq613
  refine Win.tr ?_ st613
  show Win _ _ _ _ T613 (mkF mt 4 #[.val (.ref a)] [(.int x)])
  exact Win.ret X613 hx hlk eh613 hrt rfl (Or.inl ⟨rfl, Or.inl rfl, _, rfl⟩) (hb hby d47_4) (by decide) (by decide) ⟨rfl, N613, rfl⟩
abbrev k48 : ByteArray := jdk_42_method_150_code
theorem d48_0 : decode k48 0 = .ok (.aload_n 0, 1) := by decide +kernel
theorem d48_1 : decode k48 1 = .ok (.invokespecial 1, 3) := by decide +kernel
theorem d48_4 : decode k48 4 = .ok (.aload_n 1, 1) := by decide +kernel
theorem d48_5 : decode k48 5 = .ok (.invokevirtual 552, 3) := by decide +kernel
theorem pd_32 : parseMethodDescriptor "()[B" = some ⟨[], some (.array .byte)⟩ := by decide +kernel
theorem d48_8 : decode k48 8 = .ok (.astore_n 3, 1) := by decide +kernel
theorem d48_9 : decode k48 9 = .ok (.aload_n 1, 1) := by decide +kernel
theorem d48_10 : decode k48 10 = .ok (.invokevirtual 549, 3) := by decide +kernel
theorem d48_13 : decode k48 13 = .ok (.istore 4, 2) := by decide +kernel
theorem d48_15 : decode k48 15 = .ok (.aload_n 1, 1) := by decide +kernel
theorem d48_16 : decode k48 16 = .ok (.invokevirtual 1047, 3) := by decide +kernel
theorem d48_19 : decode k48 19 = .ok (.ifCond .eq 22, 3) := by decide +kernel
theorem d48_22 : decode k48 22 = .ok (.aload_n 0, 1) := by decide +kernel
theorem d48_23 : decode k48 23 = .ok (.iconst 0, 1) := by decide +kernel
theorem d48_24 : decode k48 24 = .ok (.putfield 15, 3) := by decide +kernel
theorem d48_27 : decode k48 27 = .ok (.aload_n 0, 1) := by decide +kernel
theorem d48_28 : decode k48 28 = .ok (.aload_n 3, 1) := by decide +kernel
theorem d48_29 : decode k48 29 = .ok (.iconst 0, 1) := by decide +kernel
theorem d48_30 : decode k48 30 = .ok (.iload 4, 2) := by decide +kernel
theorem d48_32 : decode k48 32 = .ok (.invokestatic 54, 3) := by decide +kernel
theorem d48_35 : decode k48 35 = .ok (.putfield 9, 3) := by decide +kernel
theorem d48_38 : decode k48 38 = .ok (.goto 59, 3) := by decide +kernel
theorem d48_97 : decode k48 97 = .ok (.return_, 1) := by decide +kernel
theorem d48_41 : decode k48 41 = .ok (.getstatic 38, 3) := by decide +kernel
theorem d48_44 : decode k48 44 = .ok (.ifCond .eq 35, 3) := by decide +kernel
theorem d48_47 : decode k48 47 = .ok (.aload_n 1, 1) := by decide +kernel
theorem d48_48 : decode k48 48 = .ok (.getfield 1048, 3) := by decide +kernel
theorem d48_51 : decode k48 51 = .ok (.ifCond .eq 28, 3) := by decide +kernel
theorem d48_79 : decode k48 79 = .ok (.aload_n 0, 1) := by decide +kernel
theorem d48_80 : decode k48 80 = .ok (.iconst 1, 1) := by decide +kernel
theorem d48_81 : decode k48 81 = .ok (.putfield 15, 3) := by decide +kernel
theorem d48_84 : decode k48 84 = .ok (.aload_n 0, 1) := by decide +kernel
theorem d48_85 : decode k48 85 = .ok (.aload_n 3, 1) := by decide +kernel
theorem d48_86 : decode k48 86 = .ok (.iconst 0, 1) := by decide +kernel
theorem d48_87 : decode k48 87 = .ok (.iload 4, 2) := by decide +kernel
theorem d48_89 : decode k48 89 = .ok (.iconst 1, 1) := by decide +kernel
theorem d48_90 : decode k48 90 = .ok (.ishl, 1) := by decide +kernel
theorem d48_91 : decode k48 91 = .ok (.invokestatic 54, 3) := by decide +kernel
theorem d48_94 : decode k48 94 = .ok (.putfield 9, 3) := by decide +kernel
abbrev y_48 : MethodName := ⟨"java/lang/String", "<init>", "(Ljava/lang/AbstractStringBuilder;Ljava/lang/Void;)V"⟩
abbrev r_sia : Room := { frames := 3, cells := 1, slots := 32, locals := 49 }
theorem ef_sia (mt : MethodId) (a : Addr) (q_ : Addr) : entryFrame mt #[(.ref a), (.ref q_), .null] 5 = mkF mt 0 #[.val (.ref a), .val (.ref q_), .val .null, .unset, .unset] [] := by first | (simp [entryFrame, mkF, argsToLocals, Value.category]; done) | rfl
def Q_sia (Z : State) (a : Addr) (q_ : Addr) (bf : Addr) (kv : ClassId) (zv : Int32) (vv_ : List Value) (cb : Int32) (nb : Nat) (fb : Nat → Int32) (h0 : Heap) (n0 : Nat) (v : Option Value) (h : Heap) (L : List Loc) : Prop := v = none ∧ Fr n0 L ∧ Keep h0 h [a] ∧ ∃ (t : Addr) (k : ClassId) (z : Int32) (vs : List Value) (cd : Int32), Fld Z h a "java/lang/String" "value" "[B" (.ref t) ∧ Fld Z h a "java/lang/String" "coder" "B" (.int cd) ∧ Arv Z h t k .byte z vs (.int (0 : Int32)) ∧ own_S cd z nb fb vs
theorem rm_sia (l : Launch) (Z : State) (a0 : Array Value) (hw : ∀ d ∈ tables_1, d.before a0 Z = true) (ws : List Jvm.Cond) (a : Addr) (q_ : Addr) (bf : Addr) (kv : ClassId) (zv : Int32) (vv_ : List Value) (cb : Int32) (nb : Nat) (fb : Nat → Int32) (h0 : Heap) (n0 : Nat) (Z0 : n0 ≤ h0.size) (E : Exa Z h0 a "java/lang/String") (Fv : Fld Z h0 a "java/lang/String" "value" "[B" .null) (Fc : Fld Z h0 a "java/lang/String" "coder" "B" (.int (0 : Int32))) (ga : n0 ≤ a) (BE : Exa Z h0 q_ "java/lang/StringBuilder") (Bv : Fld Z h0 q_ "java/lang/AbstractStringBuilder" "value" "[B" (.ref bf)) (Bc : Fld Z h0 q_ "java/lang/AbstractStringBuilder" "coder" "B" (.int cb)) (Bn : Fld Z h0 q_ "java/lang/AbstractStringBuilder" "count" "I" (.int (own_I nb))) (Bm : Fld Z h0 q_ "java/lang/AbstractStringBuilder" "maybeLatin1" "Z" (.int (0 : Int32))) (BV : Arv Z h0 bf kv .byte zv vv_ (.int (0 : Int32))) (BX : Exa Z h0 bf "[B") (HW : own_W cb zv nb fb vv_) (ST : own_St Z) (O : Old Z n0 h0) :
    Met l y_48 k48 5 none ws r_sia #[(.ref a), (.ref q_), .null] Z h0 (Q_sia Z a q_ bf kv zv vv_ cb nb fb h0 n0) := by
  refine MetFree.of_bodySF (plainFor_of_name pn_0) hisR ?_
  intro p e s mt args below meth cd s₁ Bd hml0 hP hK
  obtain ⟨hA, hZ, hh⟩ := hP
  have hx := Bd.exec
  have hby := Bd.bytes
  have hml : cd.maxLocals = 5 := hml0
  have hown : s.vm.findClass "java/lang/String" = some mt.cls := findClass_of_methodNamed Bd.named
  have hnm := (name_of_methodNamed Bd.named Bd.method).1
  have hlk : meth.locks = false := BodyLoose.notSynchronized Bd
  have hrt := Bd.returns
  have X0 : Stand p l e r_sia s mt args below meth cd s₁ [] 0 0 := Stand.of_body Bd
  have e0 : s₁.heap = h0 := by rw [← hh, Bd.state]; rfl
  have N0 := Fr.nil n0
  show Win p e below (Ends s (Q_sia Z a q_ bf kv zv vv_ cb nb fb h0 n0) r_sia.cells r_sia.slots) s₁ (entryFrame mt args 5)
  rw [hA, ef_sia]
  obtain ⟨cs, u, S0, hcs, S1, hu, S2, S3, S4⟩ := id ST
  have naq : a ≠ q_ := own_exne E BE (by decide)
  have nab : a ≠ bf := Exa.neArv E BV (ow hw 5 rfl)
  rcases HW with ⟨hnb, ⟨rfl, rfl, hlv, HE⟩ | ⟨rfl, rfl, hlv, HE⟩⟩
  · show Win _ _ _ _ s₁ (mkF mt 0 #[.val (.ref a), .val (.ref q_), .val .null, .unset, .unset] [])
    refine w_aloadN X0 hx hby d48_0 rfl rfl ?_
    show Win _ _ _ _ s₁ (mkF mt 1 #[.val (.ref a), .val (.ref q_), .val .null, .unset, .unset] [(.ref a)])
    obtain ⟨T614, X614, e614, st614⟩ := initO X0 hx hZ hown (ow hw 15 rfl) (ow hw 16 rfl) (ow hw 17 rfl) e0 (g := (mkF mt 1 #[.val (.ref a), .val (.ref q_), .val .null, .unset, .unset] [(.ref a)])) rfl (by rw [hml]; rfl) rfl (hb hby d48_1) (by decide) (W := 0) (by show 2 * 0 + _ ≤ _; exact Nat.le_of_eq rfl) (by decide)
    refine Win.st ?_ st614
    refine w_aloadN X614 hx hby d48_4 rfl rfl ?_
    show Win _ _ _ _ T614 (mkF mt 5 #[.val (.ref a), .val (.ref q_), .val .null, .unset, .unset] [(.ref q_)])
    obtain ⟨cq615, kq615, q615a, q615b, q615c⟩ := isOf hZ e614 BE
    obtain ⟨v615, _, ⟨T615, L615, k615, n615⟩, -, X615, ⟨Lc615, hQ615, l615, rfl, rfl⟩, st615⟩ := X614.virtualBack hx (y := y_45) (z := y_45) hown (mvT hZ (ow hw 113 rfl)) (mvT hZ (ow hw 114 rfl)) (notFace_of_selects (args := #[]) (mvT hZ (ow hw 116 rfl))) (mvT hZ (ow hw 116 rfl)) (mvT hZ (ow hw 115 rfl)) (by decide) (backOf (W := 0) (rm_getv l Z a0 hw [] q_ bf h0 n0 Z0 Bv) hZ (ow hw 117 rfl) (ow hw 43 rfl) (by decide) (by decide)) q615a q615c (g := (mkF mt 5 #[.val (.ref a), .val (.ref q_), .val .null, .unset, .unset] [(.ref q_)])) rfl (by rw [hml]; rfl) (Steps.refl _) (argsL := []) (rest := []) (lenOf pd_32 rfl) rfl (wz rfl) (hb hby d48_5) (fun _ _ => ⟨rfl, e614, (by decide : 0 + 0 ≤ _), (by decide : 0 + 0 ≤ _)⟩)
    replace X615 : Stand p l e _ s mt args below meth cd T615 L615 0 0 := X615
    obtain ⟨rfl, Nq615, eh615⟩ := hQ615
    have N615 := own_fr (L := L615) l615 N0 Nq615
    refine Win.tr ?_ st615
    show Win _ _ _ _ T615 (mkF mt 8 #[.val (.ref a), .val (.ref q_), .val .null, .unset, .unset] [(.ref bf)])
    refine Win.st ?_ (fun tq kq => XS.astoreN X615.here hx rfl (hb hby d48_8) rfl rfl (l' := #[.val (.ref a), .val (.ref q_), .val .null, .val (.ref bf), .unset]) rfl kq)
    refine w_aloadN X615 hx hby d48_9 rfl rfl ?_
    show Win _ _ _ _ T615 (mkF mt 10 #[.val (.ref a), .val (.ref q_), .val .null, .val (.ref bf), .unset] [(.ref q_)])
    obtain ⟨cq616, kq616, q616a, q616b, q616c⟩ := isOf hZ eh615 BE
    obtain ⟨v616, _, ⟨T616, L616, k616, n616⟩, -, X616, ⟨Lc616, hQ616, l616, rfl, rfl⟩, st616⟩ := X615.virtualBack hx (y := y_46) (z := y_47) hown (mvT hZ (ow hw 118 rfl)) (mvT hZ (ow hw 119 rfl)) (own_nf (args := #[]) (mvT hZ (ow hw 77 rfl)) rfl) (mvT hZ (ow hw 121 rfl)) (mvT hZ (ow hw 122 rfl)) (by decide) (backOf (W := 0) (rm_sblen l Z a0 hw [] q_ (own_I nb) h0 n0 Z0 BE Bn) hZ (ow hw 123 rfl) (ow hw 35 rfl) (by decide) (by decide)) q616a q616c (g := (mkF mt 10 #[.val (.ref a), .val (.ref q_), .val .null, .val (.ref bf), .unset] [(.ref q_)])) rfl (by rw [hml]; rfl) (Steps.refl _) (argsL := []) (rest := []) (lenOf pd_27 rfl) rfl (wz rfl) (hb hby d48_10) (fun _ _ => ⟨rfl, eh615, (by decide : 0 + 0 ≤ _), (by decide : 0 + 0 ≤ _)⟩)
    replace X616 : Stand p l e _ s mt args below meth cd T616 L616 0 0 := X616
    obtain ⟨rfl, Nq616, eh616⟩ := hQ616
    have N616 := own_fr (L := L616) l616 N615 Nq616
    refine Win.tr ?_ st616
    show Win _ _ _ _ T616 (mkF mt 13 #[.val (.ref a), .val (.ref q_), .val .null, .val (.ref bf), .unset] [(.int (own_I nb))])
    refine Win.st ?_ (fun tq kq => XS.istore X616.here hx rfl (hb hby d48_13) rfl (l' := #[.val (.ref a), .val (.ref q_), .val .null, .val (.ref bf), .val (.int (own_I nb))]) rfl kq)
    refine w_aloadN X616 hx hby d48_15 rfl rfl ?_
    show Win _ _ _ _ T616 (mkF mt 16 #[.val (.ref a), .val (.ref q_), .val .null, .val (.ref bf), .val (.int (own_I nb))] [(.ref q_)])
    obtain ⟨cq617, kq617, q617a, q617b, q617c⟩ := isOf hZ eh616 BE
    obtain ⟨v617, _, ⟨T617, L617, k617, n617⟩, -, X617, ⟨Lc617, hQ617, l617, rfl, rfl⟩, st617⟩ := X616.virtualBack hx (y := y_2) (z := y_2) hown (mvT hZ (ow hw 126 rfl)) (mvT hZ (ow hw 127 rfl)) (notFace_of_selects (args := #[]) (mvT hZ (ow hw 129 rfl))) (mvT hZ (ow hw 129 rfl)) (mvT hZ (ow hw 128 rfl)) (by decide) (backOf (W := 0) (rm_bisl l Z a0 hw [] q_ (0 : Int32) h0 n0 Z0 Bc ST O) hZ (ow hw 130 rfl) (ow hw 43 rfl) (by decide) (by decide)) q617a q617c (g := (mkF mt 16 #[.val (.ref a), .val (.ref q_), .val .null, .val (.ref bf), .val (.int (own_I nb))] [(.ref q_)])) rfl (by rw [hml]; rfl) (Steps.refl _) (argsL := []) (rest := []) (lenOf pd_8 rfl) rfl (wz rfl) (hb hby d48_16) (fun _ _ => ⟨rfl, eh616, (by decide : 0 + 0 ≤ _), (by decide : 0 + 0 ≤ _)⟩)
    replace X617 : Stand p l e _ s mt args below meth cd T617 L617 0 0 := X617
    obtain ⟨rfl, Nq617, eh617⟩ := hQ617
    have N617 := own_fr (L := L617) l617 N616 Nq617
    rw [show own_isL (0 : Int32) = (1 : Int32) from by decide] at st617
    refine Win.tr ?_ st617
    show Win _ _ _ _ T617 (mkF mt 19 #[.val (.ref a), .val (.ref q_), .val .null, .val (.ref bf), .val (.int (own_I nb))] [(.int (1 : Int32))])
    refine Win.st ?_ (fun tq kq => XS.ifNo X617.here hx rfl (hb hby d48_19) rfl ((if0 _ _).trans (feq (by decide : ¬ ((1 : Int32) = (0 : Int32)))).1) kq)
    refine w_aloadN X617 hx hby d48_22 rfl rfl ?_
    refine w_iconst X617 hx hby d48_23 ?_
    show Win _ _ _ _ T617 (mkF mt 24 #[.val (.ref a), .val (.ref q_), .val .null, .val (.ref bf), .val (.int (own_I nb))] [(.int (0 : Int32)), (.ref a)])
    obtain ⟨T618, h618, X618, e618, W618, st618⟩ := putFN X617 hx hZ hown (ow hw 25 rfl) Via.refl eh617 Fc E (Or.inr ⟨(ow hw 21 rfl), rfl, hnm⟩) (ow hw 5 rfl) (ty := .byte) (v' := (.int (0 : Int32))) (by decide) rfl (by decide) (g := (mkF mt 24 #[.val (.ref a), .val (.ref q_), .val .null, .val (.ref bf), .val (.int (own_I nb))] [(.int (0 : Int32)), (.ref a)])) rfl rfl (hb hby d48_24)
    obtain ⟨L618, X618, N618⟩ := own_hide X618 N617 ga
    have kp618 := Keep.of_wr W618
    have f618_46 := Fv.other W618 (Or.inr (slot_ne (Or.inr (ow hw 20 rfl)) (Or.inr (ow hw 21 rfl)) (by decide) (t := (.array .byte)) (t' := .byte) (by decide) (by decide)))
    have fw618 := Fc.same W618
    have f619_49 := E.keep kp618
    have f619_55 := BV.keep kp618 (ninS (Ne.symm nab) nin0)
    have f619_56 := BX.keep kp618
    have Z620 : n0 ≤ h618.size := Nat.le_trans Z0 kp618.1
    have K621 : Keep h0 h618 [a] := Keep.trans (Keep.refl h0 [a]) kp618 (allS (Or.inl (List.mem_of_getElem? (i := 0) rfl)) all0)
    refine Win.st ?_ st618
    refine w_aloadN X618 hx hby d48_27 rfl rfl ?_
    refine w_aloadN X618 hx hby d48_28 rfl rfl ?_
    refine w_iconst X618 hx hby d48_29 ?_
    refine w_iload X618 hx hby d48_30 rfl ?_
    show Win _ _ _ _ T618 (mkF mt 32 #[.val (.ref a), .val (.ref q_), .val .null, .val (.ref bf), .val (.int (own_I nb))] [(.int (own_I nb)), (.int (0 : Int32)), (.ref bf), (.ref a)])
    obtain ⟨v622, _, ⟨T622, L622, k622, n622⟩, -, X622, ⟨Lc622, hQ622, l622, rfl, rfl⟩, st622⟩ := Jvm.LawKit.callS X618 hx (y := y_44) hown (mvT hZ (ow hw 131 rfl)) (mvT hZ (ow hw 132 rfl)) (mvT hZ (ow hw 133 rfl)) (mvT hZ (ow hw 134 rfl)) (by decide) (backOf (W := 1) (rm_cor l Z a0 hw [] bf kv 16 vv_ nb h618 n0 Z620 f619_55 (by omega) (by decide) f619_56) hZ (ow hw 134 rfl) (ow hw 133 rfl) (by decide) (by decide)) (g := (mkF mt 32 #[.val (.ref a), .val (.ref q_), .val .null, .val (.ref bf), .val (.int (own_I nb))] [(.int (own_I nb)), (.int (0 : Int32)), (.ref bf), (.ref a)])) rfl (by rw [hml]; rfl) (argsL := [(.ref bf), (.int (0 : Int32)), (.int (own_I nb))]) (rest := [(.ref a)]) (lenOf pd_31 rfl) rfl (wz rfl) (hb hby d48_32) (fun _ _ => ⟨rfl, e618, (by decide : 0 + 1 ≤ _), (by decide : 0 + 32 ≤ _)⟩)
    replace X622 : Stand p l e _ s mt args below meth cd T622 L622 1 32 := X622
    obtain ⟨h622, e622⟩ : ∃ z, T622.heap = z := ⟨_, rfl⟩
    rw [e622] at hQ622
    obtain ⟨tt, rfl, Nq622, K622, gt622, zt622, kt, vt, Vt622, hcp622⟩ := hQ622
    have N622 := own_fr (L := L622) l622 N618 Nq622
    have f623_72 := f619_49.keep K622
    have f623_73 := f618_46.keep K622 nin0
    have f623_74 := fw618.keep K622 nin0
    have K625 : Keep h0 h622 [a] := Keep.trans K621 K622 all0
    have ne626 : a ≠ tt := Nat.ne_of_lt (Nat.lt_of_lt_of_le f619_49.lt zt622)
    refine Win.st ?_ st622
    show Win _ _ _ _ T622 (mkF mt 35 #[.val (.ref a), .val (.ref q_), .val .null, .val (.ref bf), .val (.int (own_I nb))] [(.ref tt), (.ref a)])
    obtain ⟨T629, h629, X629, e629, W629, st629⟩ := putF X622 hx hZ hown (host := "") (Or.inl (ow hw 24 rfl)) Via.refl e622 f623_73 f623_72 (Or.inr ⟨(ow hw 20 rfl), rfl, hnm⟩) (ow hw 5 rfl) (ty := (.array .byte)) (by decide) rfl rfl (g := (mkF mt 35 #[.val (.ref a), .val (.ref q_), .val .null, .val (.ref bf), .val (.int (own_I nb))] [(.ref tt), (.ref a)])) rfl rfl (hb hby d48_35)
    obtain ⟨L629, X629, N629⟩ := own_hide X629 N622 ga
    have kp629 := Keep.of_wr W629
    have fw629 := f623_73.same W629
    have f629_93 := f623_74.other W629 (Or.inr (slot_ne (Or.inr (ow hw 21 rfl)) (Or.inr (ow hw 20 rfl)) (by decide) (t := .byte) (t' := (.array .byte)) (by decide) (by decide)))
    have f630_103 := Vt622.keep kp629 (ninS (Ne.symm ne626) nin0)
    have K632 : Keep h0 h629 [a] := Keep.trans K625 kp629 (allS (Or.inl (List.mem_of_getElem? (i := 0) rfl)) all0)
    refine Win.st ?_ st629
    show Win _ _ _ _ T629 (mkF mt 38 #[.val (.ref a), .val (.ref q_), .val .null, .val (.ref bf), .val (.int (own_I nb))] [])
    refine Win.st ?_ (fun tq kq => XS.goto X629.here hx rfl (pc0 := 38) (pc' := 97) rfl (hb hby d48_38) (by decide) (by decide) kq)
    show Win _ _ _ _ T629 (mkF mt 97 #[.val (.ref a), .val (.ref q_), .val .null, .val (.ref bf), .val (.int (own_I nb))] [])
    exact Win.retV X629 hx hlk e629 hrt (hb hby d48_97) (by decide) (by decide) ⟨rfl, N629, K632, tt, kt, _, vt, _, fw629, f629_93, f630_103, ⟨hnb, Or.inl ⟨rfl, rfl, own_E0_eq HE hcp622⟩⟩⟩
  · show Win _ _ _ _ s₁ (mkF mt 0 #[.val (.ref a), .val (.ref q_), .val .null, .unset, .unset] [])
    refine w_aloadN X0 hx hby d48_0 rfl rfl ?_
    show Win _ _ _ _ s₁ (mkF mt 1 #[.val (.ref a), .val (.ref q_), .val .null, .unset, .unset] [(.ref a)])
    obtain ⟨T633, X633, e633, st633⟩ := initO X0 hx hZ hown (ow hw 15 rfl) (ow hw 16 rfl) (ow hw 17 rfl) e0 (g := (mkF mt 1 #[.val (.ref a), .val (.ref q_), .val .null, .unset, .unset] [(.ref a)])) rfl (by rw [hml]; rfl) rfl (hb hby d48_1) (by decide) (W := 0) (by show 2 * 0 + _ ≤ _; exact Nat.le_of_eq rfl) (by decide)
    refine Win.st ?_ st633
    refine w_aloadN X633 hx hby d48_4 rfl rfl ?_
    show Win _ _ _ _ T633 (mkF mt 5 #[.val (.ref a), .val (.ref q_), .val .null, .unset, .unset] [(.ref q_)])
    obtain ⟨cq634, kq634, q634a, q634b, q634c⟩ := isOf hZ e633 BE
    obtain ⟨v634, _, ⟨T634, L634, k634, n634⟩, -, X634, ⟨Lc634, hQ634, l634, rfl, rfl⟩, st634⟩ := X633.virtualBack hx (y := y_45) (z := y_45) hown (mvT hZ (ow hw 113 rfl)) (mvT hZ (ow hw 114 rfl)) (notFace_of_selects (args := #[]) (mvT hZ (ow hw 116 rfl))) (mvT hZ (ow hw 116 rfl)) (mvT hZ (ow hw 115 rfl)) (by decide) (backOf (W := 0) (rm_getv l Z a0 hw [] q_ bf h0 n0 Z0 Bv) hZ (ow hw 117 rfl) (ow hw 43 rfl) (by decide) (by decide)) q634a q634c (g := (mkF mt 5 #[.val (.ref a), .val (.ref q_), .val .null, .unset, .unset] [(.ref q_)])) rfl (by rw [hml]; rfl) (Steps.refl _) (argsL := []) (rest := []) (lenOf pd_32 rfl) rfl (wz rfl) (hb hby d48_5) (fun _ _ => ⟨rfl, e633, (by decide : 0 + 0 ≤ _), (by decide : 0 + 0 ≤ _)⟩)
    replace X634 : Stand p l e _ s mt args below meth cd T634 L634 0 0 := X634
    obtain ⟨rfl, Nq634, eh634⟩ := hQ634
    have N634 := own_fr (L := L634) l634 N0 Nq634
    refine Win.tr ?_ st634
    show Win _ _ _ _ T634 (mkF mt 8 #[.val (.ref a), .val (.ref q_), .val .null, .unset, .unset] [(.ref bf)])
    refine Win.st ?_ (fun tq kq => XS.astoreN X634.here hx rfl (hb hby d48_8) rfl rfl (l' := #[.val (.ref a), .val (.ref q_), .val .null, .val (.ref bf), .unset]) rfl kq)
    refine w_aloadN X634 hx hby d48_9 rfl rfl ?_
    show Win _ _ _ _ T634 (mkF mt 10 #[.val (.ref a), .val (.ref q_), .val .null, .val (.ref bf), .unset] [(.ref q_)])
    obtain ⟨cq635, kq635, q635a, q635b, q635c⟩ := isOf hZ eh634 BE
    obtain ⟨v635, _, ⟨T635, L635, k635, n635⟩, -, X635, ⟨Lc635, hQ635, l635, rfl, rfl⟩, st635⟩ := X634.virtualBack hx (y := y_46) (z := y_47) hown (mvT hZ (ow hw 118 rfl)) (mvT hZ (ow hw 119 rfl)) (own_nf (args := #[]) (mvT hZ (ow hw 77 rfl)) rfl) (mvT hZ (ow hw 121 rfl)) (mvT hZ (ow hw 122 rfl)) (by decide) (backOf (W := 0) (rm_sblen l Z a0 hw [] q_ (own_I nb) h0 n0 Z0 BE Bn) hZ (ow hw 123 rfl) (ow hw 35 rfl) (by decide) (by decide)) q635a q635c (g := (mkF mt 10 #[.val (.ref a), .val (.ref q_), .val .null, .val (.ref bf), .unset] [(.ref q_)])) rfl (by rw [hml]; rfl) (Steps.refl _) (argsL := []) (rest := []) (lenOf pd_27 rfl) rfl (wz rfl) (hb hby d48_10) (fun _ _ => ⟨rfl, eh634, (by decide : 0 + 0 ≤ _), (by decide : 0 + 0 ≤ _)⟩)
    replace X635 : Stand p l e _ s mt args below meth cd T635 L635 0 0 := X635
    obtain ⟨rfl, Nq635, eh635⟩ := hQ635
    have N635 := own_fr (L := L635) l635 N634 Nq635
    refine Win.tr ?_ st635
    show Win _ _ _ _ T635 (mkF mt 13 #[.val (.ref a), .val (.ref q_), .val .null, .val (.ref bf), .unset] [(.int (own_I nb))])
    refine Win.st ?_ (fun tq kq => XS.istore X635.here hx rfl (hb hby d48_13) rfl (l' := #[.val (.ref a), .val (.ref q_), .val .null, .val (.ref bf), .val (.int (own_I nb))]) rfl kq)
    refine w_aloadN X635 hx hby d48_15 rfl rfl ?_
    show Win _ _ _ _ T635 (mkF mt 16 #[.val (.ref a), .val (.ref q_), .val .null, .val (.ref bf), .val (.int (own_I nb))] [(.ref q_)])
    obtain ⟨cq636, kq636, q636a, q636b, q636c⟩ := isOf hZ eh635 BE
    obtain ⟨v636, _, ⟨T636, L636, k636, n636⟩, -, X636, ⟨Lc636, hQ636, l636, rfl, rfl⟩, st636⟩ := X635.virtualBack hx (y := y_2) (z := y_2) hown (mvT hZ (ow hw 126 rfl)) (mvT hZ (ow hw 127 rfl)) (notFace_of_selects (args := #[]) (mvT hZ (ow hw 129 rfl))) (mvT hZ (ow hw 129 rfl)) (mvT hZ (ow hw 128 rfl)) (by decide) (backOf (W := 0) (rm_bisl l Z a0 hw [] q_ (1 : Int32) h0 n0 Z0 Bc ST O) hZ (ow hw 130 rfl) (ow hw 43 rfl) (by decide) (by decide)) q636a q636c (g := (mkF mt 16 #[.val (.ref a), .val (.ref q_), .val .null, .val (.ref bf), .val (.int (own_I nb))] [(.ref q_)])) rfl (by rw [hml]; rfl) (Steps.refl _) (argsL := []) (rest := []) (lenOf pd_8 rfl) rfl (wz rfl) (hb hby d48_16) (fun _ _ => ⟨rfl, eh635, (by decide : 0 + 0 ≤ _), (by decide : 0 + 0 ≤ _)⟩)
    replace X636 : Stand p l e _ s mt args below meth cd T636 L636 0 0 := X636
    obtain ⟨rfl, Nq636, eh636⟩ := hQ636
    have N636 := own_fr (L := L636) l636 N635 Nq636
    rw [show own_isL (1 : Int32) = (0 : Int32) from by decide] at st636
    refine Win.tr ?_ st636
    show Win _ _ _ _ T636 (mkF mt 19 #[.val (.ref a), .val (.ref q_), .val .null, .val (.ref bf), .val (.int (own_I nb))] [(.int (0 : Int32))])
    refine Win.st ?_ (fun tq kq => XS.ifYes X636.here hx rfl (pc0 := 19) (pc' := 41) rfl (hb hby d48_19) rfl ((if0 _ _).trans (teq (rfl : (0 : Int32) = (0 : Int32))).1) (by decide) (by decide) kq)
    show Win _ _ _ _ T636 (mkF mt 41 #[.val (.ref a), .val (.ref q_), .val .null, .val (.ref bf), .val (.int (own_I nb))] [])
    obtain ⟨T637, X637, e637, st637⟩ := getS2 X636 hx hZ hown (host := "") (Or.inl (ow hw 71 rfl)) Via.refl eh636 (S0.ext O.2) (g := (mkF mt 41 #[.val (.ref a), .val (.ref q_), .val .null, .val (.ref bf), .val (.int (own_I nb))] [])) rfl (hb hby d48_41)
    refine Win.st ?_ st637
    show Win _ _ _ _ T637 (mkF mt 44 #[.val (.ref a), .val (.ref q_), .val .null, .val (.ref bf), .val (.int (own_I nb))] [(.int cs)])
    refine Win.st ?_ (fun tq kq => XS.ifNo X637.here hx rfl (hb hby d48_44) rfl ((if0 _ _).trans (feq hcs).1) kq)
    refine w_aloadN X637 hx hby d48_47 rfl rfl ?_
    obtain ⟨T638, X638, e638, st638⟩ := getF X637 hx hZ hown (host := "") (Or.inl (ow hw 298 rfl)) Via.refl e637 Bm (g := (mkF mt 48 #[.val (.ref a), .val (.ref q_), .val .null, .val (.ref bf), .val (.int (own_I nb))] [(.ref q_)])) rfl rfl (hb hby d48_48)
    refine Win.st ?_ st638
    show Win _ _ _ _ T638 (mkF mt 51 #[.val (.ref a), .val (.ref q_), .val .null, .val (.ref bf), .val (.int (own_I nb))] [(.int (0 : Int32))])
    refine Win.st ?_ (fun tq kq => XS.ifYes X638.here hx rfl (pc0 := 51) (pc' := 79) rfl (hb hby d48_51) rfl ((if0 _ _).trans (teq (rfl : (0 : Int32) = (0 : Int32))).1) (by decide) (by decide) kq)
    refine w_aloadN X638 hx hby d48_79 rfl rfl ?_
    refine w_iconst X638 hx hby d48_80 ?_
    show Win _ _ _ _ T638 (mkF mt 81 #[.val (.ref a), .val (.ref q_), .val .null, .val (.ref bf), .val (.int (own_I nb))] [(.int (1 : Int32)), (.ref a)])
    obtain ⟨T639, h639, X639, e639, W639, st639⟩ := putFN X638 hx hZ hown (ow hw 25 rfl) Via.refl e638 Fc E (Or.inr ⟨(ow hw 21 rfl), rfl, hnm⟩) (ow hw 5 rfl) (ty := .byte) (v' := (.int (1 : Int32))) (by decide) rfl (by decide) (g := (mkF mt 81 #[.val (.ref a), .val (.ref q_), .val .null, .val (.ref bf), .val (.int (own_I nb))] [(.int (1 : Int32)), (.ref a)])) rfl rfl (hb hby d48_81)
    obtain ⟨L639, X639, N639⟩ := own_hide X639 N636 ga
    have kp639 := Keep.of_wr W639
    have f639_163 := Fv.other W639 (Or.inr (slot_ne (Or.inr (ow hw 20 rfl)) (Or.inr (ow hw 21 rfl)) (by decide) (t := (.array .byte)) (t' := .byte) (by decide) (by decide)))
    have fw639 := Fc.same W639
    have f640_166 := E.keep kp639
    have f640_172 := BV.keep kp639 (ninS (Ne.symm nab) nin0)
    have f640_173 := BX.keep kp639
    have Z641 : n0 ≤ h639.size := Nat.le_trans Z0 kp639.1
    have K642 : Keep h0 h639 [a] := Keep.trans (Keep.refl h0 [a]) kp639 (allS (Or.inl (List.mem_of_getElem? (i := 0) rfl)) all0)
    refine Win.st ?_ st639
    refine w_aloadN X639 hx hby d48_84 rfl rfl ?_
    refine w_aloadN X639 hx hby d48_85 rfl rfl ?_
    refine w_iconst X639 hx hby d48_86 ?_
    refine w_iload X639 hx hby d48_87 rfl ?_
    refine w_iconst X639 hx hby d48_89 ?_
    refine Win.st ?_ (fun tq kq => XS.ishl X639.here hx rfl (hb hby d48_90) rfl kq)
    show Win _ _ _ _ T639 (mkF mt 91 #[.val (.ref a), .val (.ref q_), .val .null, .val (.ref bf), .val (.int (own_I nb))] [(.int ((own_I nb) <<< ((1 : Int32) &&& 31))), (.int (0 : Int32)), (.ref bf), (.ref a)])
    rw [own_shl1 hnb]
    show Win _ _ _ _ T639 (mkF mt 91 #[.val (.ref a), .val (.ref q_), .val .null, .val (.ref bf), .val (.int (own_I nb))] [(.int (own_I (2 * nb))), (.int (0 : Int32)), (.ref bf), (.ref a)])
    obtain ⟨v643, _, ⟨T643, L643, k643, n643⟩, -, X643, ⟨Lc643, hQ643, l643, rfl, rfl⟩, st643⟩ := Jvm.LawKit.callS X639 hx (y := y_44) hown (mvT hZ (ow hw 131 rfl)) (mvT hZ (ow hw 132 rfl)) (mvT hZ (ow hw 133 rfl)) (mvT hZ (ow hw 134 rfl)) (by decide) (backOf (W := 1) (rm_cor l Z a0 hw [] bf kv 32 vv_ (2 * nb) h639 n0 Z641 f640_172 (by omega) (by decide) f640_173) hZ (ow hw 134 rfl) (ow hw 133 rfl) (by decide) (by decide)) (g := (mkF mt 91 #[.val (.ref a), .val (.ref q_), .val .null, .val (.ref bf), .val (.int (own_I nb))] [(.int (own_I (2 * nb))), (.int (0 : Int32)), (.ref bf), (.ref a)])) rfl (by rw [hml]; rfl) (argsL := [(.ref bf), (.int (0 : Int32)), (.int (own_I (2 * nb)))]) (rest := [(.ref a)]) (lenOf pd_31 rfl) rfl (wz rfl) (hb hby d48_91) (fun _ _ => ⟨rfl, e639, (by decide : 0 + 1 ≤ _), (by decide : 0 + 32 ≤ _)⟩)
    replace X643 : Stand p l e _ s mt args below meth cd T643 L643 1 32 := X643
    obtain ⟨h643, e643⟩ : ∃ z, T643.heap = z := ⟨_, rfl⟩
    rw [e643] at hQ643
    obtain ⟨tt, rfl, Nq643, K643, gt643, zt643, kt, vt, Vt643, hcp643⟩ := hQ643
    have N643 := own_fr (L := L643) l643 N639 Nq643
    have f644_193 := f640_166.keep K643
    have f644_194 := f639_163.keep K643 nin0
    have f644_195 := fw639.keep K643 nin0
    have K646 : Keep h0 h643 [a] := Keep.trans K642 K643 all0
    have ne647 : a ≠ tt := Nat.ne_of_lt (Nat.lt_of_lt_of_le f640_166.lt zt643)
    refine Win.st ?_ st643
    show Win _ _ _ _ T643 (mkF mt 94 #[.val (.ref a), .val (.ref q_), .val .null, .val (.ref bf), .val (.int (own_I nb))] [(.ref tt), (.ref a)])
    obtain ⟨T650, h650, X650, e650, W650, st650⟩ := putF X643 hx hZ hown (host := "") (Or.inl (ow hw 24 rfl)) Via.refl e643 f644_194 f644_193 (Or.inr ⟨(ow hw 20 rfl), rfl, hnm⟩) (ow hw 5 rfl) (ty := (.array .byte)) (by decide) rfl rfl (g := (mkF mt 94 #[.val (.ref a), .val (.ref q_), .val .null, .val (.ref bf), .val (.int (own_I nb))] [(.ref tt), (.ref a)])) rfl rfl (hb hby d48_94)
    obtain ⟨L650, X650, N650⟩ := own_hide X650 N643 ga
    have kp650 := Keep.of_wr W650
    have fw650 := f644_194.same W650
    have f650_214 := f644_195.other W650 (Or.inr (slot_ne (Or.inr (ow hw 21 rfl)) (Or.inr (ow hw 20 rfl)) (by decide) (t := .byte) (t' := (.array .byte)) (by decide) (by decide)))
    have f651_224 := Vt643.keep kp650 (ninS (Ne.symm ne647) nin0)
    have K653 : Keep h0 h650 [a] := Keep.trans K646 kp650 (allS (Or.inl (List.mem_of_getElem? (i := 0) rfl)) all0)
    refine Win.st ?_ st650
    show Win _ _ _ _ T650 (mkF mt 97 #[.val (.ref a), .val (.ref q_), .val .null, .val (.ref bf), .val (.int (own_I nb))] [])
    exact Win.retV X650 hx hlk e650 hrt (hb hby d48_97) (by decide) (by decide) ⟨rfl, N650, K653, tt, kt, _, vt, _, fw650, f650_214, f651_224, ⟨hnb, Or.inr ⟨rfl, rfl, own_E1_eq HE hcp643⟩⟩⟩
abbrev k49 : ByteArray := jdk_42_method_53_code
theorem d49_0 : decode k49 0 = .ok (.aload_n 0, 1) := by decide +kernel
theorem d49_1 : decode k49 1 = .ok (.aload_n 1, 1) := by decide +kernel
theorem d49_2 : decode k49 2 = .ok (.aconst_null, 1) := by decide +kernel
theorem d49_3 : decode k49 3 = .ok (.invokespecial 489, 3) := by decide +kernel
theorem pd_33 : parseMethodDescriptor "(Ljava/lang/AbstractStringBuilder;Ljava/lang/Void;)V" = some ⟨[(.object "java/lang/AbstractStringBuilder"), (.object "java/lang/Void")], none⟩ := by decide +kernel
theorem d49_6 : decode k49 6 = .ok (.return_, 1) := by decide +kernel
abbrev y_49 : MethodName := ⟨"java/lang/String", "<init>", "(Ljava/lang/StringBuilder;)V"⟩
abbrev r_sib : Room := { frames := 4, cells := 1, slots := 32, locals := 65 }
theorem ef_sib (mt : MethodId) (a : Addr) (q_ : Addr) : entryFrame mt #[(.ref a), (.ref q_)] 2 = mkF mt 0 #[.val (.ref a), .val (.ref q_)] [] := by first | (simp [entryFrame, mkF, argsToLocals, Value.category]; done) | rfl
def Q_sib (Z : State) (a : Addr) (q_ : Addr) (bf : Addr) (kv : ClassId) (zv : Int32) (vv_ : List Value) (cb : Int32) (nb : Nat) (fb : Nat → Int32) (h0 : Heap) (n0 : Nat) (v : Option Value) (h : Heap) (L : List Loc) : Prop := v = none ∧ Fr n0 L ∧ Keep h0 h [a] ∧ ∃ (t : Addr) (k : ClassId) (z : Int32) (vs : List Value) (cd : Int32), Fld Z h a "java/lang/String" "value" "[B" (.ref t) ∧ Fld Z h a "java/lang/String" "coder" "B" (.int cd) ∧ Arv Z h t k .byte z vs (.int (0 : Int32)) ∧ own_S cd z nb fb vs
theorem rm_sib (l : Launch) (Z : State) (a0 : Array Value) (hw : ∀ d ∈ tables_1, d.before a0 Z = true) (ws : List Jvm.Cond) (a : Addr) (q_ : Addr) (bf : Addr) (kv : ClassId) (zv : Int32) (vv_ : List Value) (cb : Int32) (nb : Nat) (fb : Nat → Int32) (h0 : Heap) (n0 : Nat) (Z0 : n0 ≤ h0.size) (E : Exa Z h0 a "java/lang/String") (Fv : Fld Z h0 a "java/lang/String" "value" "[B" .null) (Fc : Fld Z h0 a "java/lang/String" "coder" "B" (.int (0 : Int32))) (ga : n0 ≤ a) (BE : Exa Z h0 q_ "java/lang/StringBuilder") (Bv : Fld Z h0 q_ "java/lang/AbstractStringBuilder" "value" "[B" (.ref bf)) (Bc : Fld Z h0 q_ "java/lang/AbstractStringBuilder" "coder" "B" (.int cb)) (Bn : Fld Z h0 q_ "java/lang/AbstractStringBuilder" "count" "I" (.int (own_I nb))) (Bm : Fld Z h0 q_ "java/lang/AbstractStringBuilder" "maybeLatin1" "Z" (.int (0 : Int32))) (BV : Arv Z h0 bf kv .byte zv vv_ (.int (0 : Int32))) (BX : Exa Z h0 bf "[B") (HW : own_W cb zv nb fb vv_) (ST : own_St Z) (O : Old Z n0 h0) :
    Met l y_49 k49 2 none ws r_sib #[(.ref a), (.ref q_)] Z h0 (Q_sib Z a q_ bf kv zv vv_ cb nb fb h0 n0) := by
  refine MetFree.of_bodySF (plainFor_of_name pn_0) hisR ?_
  intro p e s mt args below meth cd s₁ Bd hml0 hP hK
  obtain ⟨hA, hZ, hh⟩ := hP
  have hx := Bd.exec
  have hby := Bd.bytes
  have hml : cd.maxLocals = 2 := hml0
  have hown : s.vm.findClass "java/lang/String" = some mt.cls := findClass_of_methodNamed Bd.named
  have hlk : meth.locks = false := BodyLoose.notSynchronized Bd
  have hrt := Bd.returns
  have X0 : Stand p l e r_sib s mt args below meth cd s₁ [] 0 0 := Stand.of_body Bd
  have e0 : s₁.heap = h0 := by rw [← hh, Bd.state]; rfl
  have N0 := Fr.nil n0
  show Win p e below (Ends s (Q_sib Z a q_ bf kv zv vv_ cb nb fb h0 n0) r_sib.cells r_sib.slots) s₁ (entryFrame mt args 2)
  rw [hA, ef_sib]
  obtain ⟨cs, u, S0, hcs, S1, hu, S2, S3, S4⟩ := id ST
  have naq : a ≠ q_ := own_exne E BE (by decide)
  have nab : a ≠ bf := Exa.neArv E BV (ow hw 5 rfl)
  refine w_aloadN X0 hx hby d49_0 rfl rfl ?_
  refine w_aloadN X0 hx hby d49_1 rfl rfl ?_
  refine Win.st ?_ (fun tq kq => XS.aconstNull X0.here hx rfl (hb hby d49_2) kq)
  show Win _ _ _ _ s₁ (mkF mt 3 #[.val (.ref a), .val (.ref q_)] [.null, (.ref q_), (.ref a)])
  obtain ⟨v654, _, ⟨T654, L654, k654, n654⟩, -, X654, ⟨Lc654, hQ654, l654, rfl, rfl⟩, st654⟩ := X0.specialBack hx (y := y_48) rfl hown (mvT hZ (ow hw 110 rfl)) (mvT hZ (ow hw 111 rfl)) (mvT hZ (ow hw 112 rfl)) (by decide) (backOf (W := 0) (rm_sia l Z a0 hw [] a q_ bf kv zv vv_ cb nb fb h0 n0 Z0 E Fv Fc ga BE Bv Bc Bn Bm BV BX HW ST O) hZ (ow hw 112 rfl) (ow hw 6 rfl) (by decide) (by decide)) (g := (mkF mt 3 #[.val (.ref a), .val (.ref q_)] [.null, (.ref q_), (.ref a)])) rfl (by rw [hml]; rfl) (Steps.refl _) (a := a) (argsL := [(.ref q_), .null]) (rest := []) (lenOf pd_33 rfl) rfl (wz rfl) (hb hby d49_3) (fun _ _ => ⟨rfl, e0, (by decide : 0 + 1 ≤ _), (by decide : 0 + 32 ≤ _)⟩)
  replace X654 : Stand p l e _ s mt args below meth cd T654 L654 1 32 := X654
  obtain ⟨h654, e654⟩ : ∃ z, T654.heap = z := ⟨_, rfl⟩
  rw [e654] at hQ654
  obtain ⟨rfl, Nq654, K654, hs6⟩ := hQ654
  have N654 := own_fr (L := L654) l654 N0 Nq654
  have K657 : Keep h0 h654 [a] := Keep.trans (Keep.refl h0 [a]) K654 (allS (Or.inl (List.mem_of_getElem? (i := 0) rfl)) all0)
  refine Win.tr ?_ st654
  show Win _ _ _ _ T654 (mkF mt 6 #[.val (.ref a), .val (.ref q_)] [])
  exact Win.retV X654 hx hlk e654 hrt (hb hby d49_6) (by decide) (by decide) ⟨rfl, N654, K657, hs6⟩
abbrev k50 : ByteArray := jdk_67_method_42_code
theorem d50_0 : decode k50 0 = .ok (.new 18, 3) := by decide +kernel
theorem d50_3 : decode k50 3 = .ok (.dup, 1) := by decide +kernel
theorem d50_4 : decode k50 4 = .ok (.aload_n 0, 1) := by decide +kernel
theorem d50_5 : decode k50 5 = .ok (.invokespecial 137, 3) := by decide +kernel
theorem pd_34 : parseMethodDescriptor "(Ljava/lang/StringBuilder;)V" = some ⟨[(.object "java/lang/StringBuilder")], none⟩ := by decide +kernel
theorem d50_8 : decode k50 8 = .ok (.areturn, 1) := by decide +kernel
abbrev y_50 : MethodName := ⟨"java/lang/StringBuilder", "toString", "()Ljava/lang/String;"⟩
abbrev r_tos : Room := { frames := 5, cells := 2, slots := 36, locals := 79 }
theorem ef_tos (mt : MethodId) (q_ : Addr) : entryFrame mt #[(.ref q_)] 1 = mkF mt 0 #[.val (.ref q_)] [] := by first | (simp [entryFrame, mkF, argsToLocals, Value.category]; done) | rfl
def Q_tos (Z : State) (q_ : Addr) (bf : Addr) (kv : ClassId) (zv : Int32) (vv_ : List Value) (cb : Int32) (nb : Nat) (fb : Nat → Int32) (h0 : Heap) (n0 : Nat) (v : Option Value) (h : Heap) (L : List Loc) : Prop := ∃ r : Addr, v = some (.ref r) ∧ Fr n0 L ∧ Keep h0 h [] ∧ Exa Z h r "java/lang/String" ∧ ∃ (t : Addr) (k : ClassId) (z : Int32) (vs : List Value) (cd : Int32), Fld Z h r "java/lang/String" "value" "[B" (.ref t) ∧ Fld Z h r "java/lang/String" "coder" "B" (.int cd) ∧ Arv Z h t k .byte z vs (.int (0 : Int32)) ∧ own_S cd z nb fb vs
theorem rm_tos (l : Launch) (Z : State) (a0 : Array Value) (hw : ∀ d ∈ tables_1, d.before a0 Z = true) (ws : List Jvm.Cond) (q_ : Addr) (bf : Addr) (kv : ClassId) (zv : Int32) (vv_ : List Value) (cb : Int32) (nb : Nat) (fb : Nat → Int32) (h0 : Heap) (n0 : Nat) (Z0 : n0 ≤ h0.size) (BE : Exa Z h0 q_ "java/lang/StringBuilder") (Bv : Fld Z h0 q_ "java/lang/AbstractStringBuilder" "value" "[B" (.ref bf)) (Bc : Fld Z h0 q_ "java/lang/AbstractStringBuilder" "coder" "B" (.int cb)) (Bn : Fld Z h0 q_ "java/lang/AbstractStringBuilder" "count" "I" (.int (own_I nb))) (Bm : Fld Z h0 q_ "java/lang/AbstractStringBuilder" "maybeLatin1" "Z" (.int (0 : Int32))) (BV : Arv Z h0 bf kv .byte zv vv_ (.int (0 : Int32))) (BX : Exa Z h0 bf "[B") (HW : own_W cb zv nb fb vv_) (ST : own_St Z) (O : Old Z n0 h0) :
    Met l y_50 k50 1 (some (.object "java/lang/String")) ws r_tos #[(.ref q_)] Z h0 (Q_tos Z q_ bf kv zv vv_ cb nb fb h0 n0) := by
  refine MetFree.of_bodySF (plainFor_of_name pn_6) hisR ?_
  intro p e s mt args below meth cd s₁ Bd hml0 hP hK
  obtain ⟨hA, hZ, hh⟩ := hP
  have hx := Bd.exec
  have hby := Bd.bytes
  have hml : cd.maxLocals = 1 := hml0
  have hown : s.vm.findClass "java/lang/StringBuilder" = some mt.cls := findClass_of_methodNamed Bd.named
  have hlk : meth.locks = false := BodyLoose.notSynchronized Bd
  have hrt := Bd.returns
  have X0 : Stand p l e r_tos s mt args below meth cd s₁ [] 0 0 := Stand.of_body Bd
  have e0 : s₁.heap = h0 := by rw [← hh, Bd.state]; rfl
  have N0 := Fr.nil n0
  show Win p e below (Ends s (Q_tos Z q_ bf kv zv vv_ cb nb fb h0 n0) r_tos.cells r_tos.slots) s₁ (entryFrame mt args 1)
  rw [hA, ef_tos]
  obtain ⟨cs, u, S0, hcs, S1, hu, S2, S3, S4⟩ := id ST
  obtain ⟨T658, h658, X658, e658, E658, A658, D658, -, st658⟩ := newO X0 hx hZ hown (ow hw 106 rfl) (ow hw 5 rfl) (ow hw 6 rfl) e0 (g := (mkF mt 0 #[.val (.ref q_)] [])) rfl (hb hby d50_0) (by decide) (by decide)
  obtain ⟨b658, gq658⟩ : ∃ z, z = h0.size := ⟨_, rfl⟩
  rw [← gq658] at A658 D658 st658
  have g661 : n0 ≤ b658 := own_newle Z0 gq658
  have z662 : h0.size ≤ b658 := own_newle (Keep.refl h0 []).1 gq658
  have ke658 := own_kext E658
  replace X658 : Stand p l e _ s mt args below meth cd T658 _ 1 4 := X658
  have f663_10 := O.keep ke658 all0
  have f663_11 := BE.keep ke658
  have f663_12 := Bv.keep ke658 nin0
  have f663_13 := Bc.keep ke658 nin0
  have f663_14 := Bn.keep ke658 nin0
  have f663_15 := Bm.keep ke658 nin0
  have f663_16 := BV.keep ke658 nin0
  have f663_17 := BX.keep ke658
  have Z664 : n0 ≤ h658.size := Nat.le_trans Z0 ke658.1
  have K665 : Keep h0 h658 [] := Keep.trans (Keep.refl h0 []) ke658 all0
  have fn658_value : Fld Z h658 b658 "java/lang/String" "value" "[B" .null := D658 (Or.inr (ow hw 20 rfl)) (ty := (.array .byte)) (by decide)
  have fn658_coder : Fld Z h658 b658 "java/lang/String" "coder" "B" (.int (0 : Int32)) := D658 (Or.inr (ow hw 21 rfl)) (ty := .byte) (by decide)
  refine Win.st ?_ st658
  show Win _ _ _ _ T658 (mkF mt 3 #[.val (.ref q_)] [(.ref b658)])
  refine Win.st ?_ (fun tq kq => XS.dup X658.here hx rfl (hb hby d50_3) rfl rfl kq)
  refine w_aloadN X658 hx hby d50_4 rfl rfl ?_
  show Win _ _ _ _ T658 (mkF mt 5 #[.val (.ref q_)] [(.ref q_), (.ref b658), (.ref b658)])
  obtain ⟨v666, _, ⟨T666, L666, k666, n666⟩, -, X666, ⟨Lc666, hQ666, l666, rfl, rfl⟩, st666⟩ := X658.specialBack hx (y := y_49) rfl hown (mvT hZ (ow hw 107 rfl)) (mvT hZ (ow hw 108 rfl)) (mvT hZ (ow hw 109 rfl)) (by decide) (backOf (W := 1) (rm_sib l Z a0 hw [] b658 q_ bf kv zv vv_ cb nb fb h658 n0 Z664 A658 fn658_value fn658_coder g661 f663_11 f663_12 f663_13 f663_14 f663_15 f663_16 f663_17 HW ST f663_10) hZ (ow hw 109 rfl) (ow hw 6 rfl) (by decide) (by decide)) (g := (mkF mt 5 #[.val (.ref q_)] [(.ref q_), (.ref b658), (.ref b658)])) rfl (by rw [hml]; rfl) (Steps.refl _) (a := b658) (argsL := [(.ref q_)]) (rest := [(.ref b658)]) (lenOf pd_34 rfl) rfl (wz rfl) (hb hby d50_5) (fun _ _ => ⟨rfl, e658, (by decide : 1 + 1 ≤ _), (by decide : 4 + 32 ≤ _)⟩)
  replace X666 : Stand p l e _ s mt args below meth cd T666 L666 2 36 := X666
  obtain ⟨h666, e666⟩ : ∃ z, T666.heap = z := ⟨_, rfl⟩
  rw [e666] at hQ666
  obtain ⟨rfl, Nq666, K666, hs6⟩ := hQ666
  have N666 := own_fr (L := L666) l666 N0 Nq666
  have f667_41 := A658.keep K666
  have K669 : Keep h0 h666 [] := Keep.trans K665 K666 (allS (Or.inr z662) all0)
  refine Win.tr ?_ st666
  show Win _ _ _ _ T666 (mkF mt 8 #[.val (.ref q_)] [(.ref b658)])
  exact Win.ret X666 hx hlk e666 hrt rfl (Or.inr (Or.inr (Or.inr (Or.inr ⟨rfl, rfl, rfl⟩)))) (hb hby d50_8) (by decide) (by decide) ⟨_, rfl, N666, K669, f667_41, hs6⟩
section Own3
variable {p : Program} {l : Launch} {e : Env} {R : Room} {s : State} {m : MethodId} {args : Array Value} {below : List Frame} {meth : Method} {c : Code} {T : State} {locs : List Loc} {cells slots : Nat} {Z : State} {h h0 : Heap} {a0 : Array Value} {n0 : Nat}
abbrev own_IIE : String := "com/example/kwerx/kwerx/InvalidInputException"
/-- the words on Throwable and on its fields in an InvalidInputException -/
def own_TA : List Jvm.Cond := [.initialized tN, .superclass tN "java/lang/Object", .instanceMethod tFill, .codeSync tFill LibCode.Throwable.Fill.code 1 (some (.object tN)), .instanceMethod tFill0, .native tFill0, .instanceMethod oInit, .code oInit object_method_1_code 1 none,
  .methodLink tN 1 oInit, .methodLink tN 27 tFill, .methodLink tN 202 tFill0, .fieldLink tN 7 tN "cause" "Ljava/lang/Throwable;", .lays own_IIE tN "cause" "Ljava/lang/Throwable;", .fieldLink tN 17 tN "stackTrace" steD, .lays own_IIE tN "stackTrace" steD,
  .fieldLink tN 24 tN "suppressedExceptions" listD, .lays own_IIE tN "suppressedExceptions" listD, .fieldLink tN 13 tN "UNASSIGNED_STACK" steD, .laysStatic tN "UNASSIGNED_STACK" steD, .fieldLink tN 20 tN "SUPPRESSED_SENTINEL" listD, .laysStatic tN "SUPPRESSED_SENTINEL" listD,
  .lays own_IIE tN "detailMessage" "Ljava/lang/String;", .declares tFill, .selects own_IIE tFill0 tFill0, .selects own_IIE tFill tFill, .fieldLink tN 198 tN "backtrace" "Ljava/lang/Object;", .lays own_IIE tN "backtrace" "Ljava/lang/Object;", .arrayOver (.object "java/lang/Object"),
  .soleField tN "backtrace", .soleField tN "depth", .lays own_IIE tN "depth" "I", .instantiable own_IIE 6]
theorem own_TA_in : ∀ w ∈ own_TA, w ∈ tables_1 := by decide +kernel
theorem own_TA_ok : own_TA.all xOk = true := by decide +kernel
/-- Throwable's tables, out of words of which none says how Throwable itself lays its suppressedExceptions -/
theorem own_thr {pl : Platform} (howns : pl.frameOwnsMonitors = true) (hfin : pl.finalization = false) (hpl : pl.magicAccessors = ({} : Platform).magicAccessors) (a : ∀ (i : Nat) {d : Jvm.Cond}, own_TA[i]? = some d → d.before args s = true) :
    ∃ T : ThrowableC, T.Links pl s ∧ s.vm.findClass tN = some T.cT ∧ s.methodNamed? tFill = some T.fill ∧ s.methodNamed? tFill0 = some T.fill0 ∧ s.fieldFound? tN "stackTrace" steD = some (T.cT, T.kT, T.i17, T.fStack) ∧ s.fieldFound? tN "UNASSIGNED_STACK" steD = some (T.cT, T.kT, T.i13, T.fUnassigned) ∧ T.fStack.type = .array (.object "java/lang/StackTraceElement") ∧ T.fStack.name = "stackTrace" := by
  obtain ⟨⟨ct, i0⟩, meth0, hn0, hm0, hnat0, hcode0, hlocks0, hsig0⟩ := Cond.native_spec (a 5 rfl)
  have hc : s.vm.findClass tN = some ct := findClass_of_methodNamed hn0
  obtain ⟨k, hk, hname⟩ := Vm.findClass_spec hc
  obtain ⟨_, k1, _, _, hk1, _, _, hord, _, hni⟩ := Cond.superclass_spec hc (a 1 rfl)
  cases hk.symm.trans hk1
  obtain ⟨iF, methF, hnF, hmF, hatF, hstF, habF, -, -⟩ := Cond.ownMethod (x := tFill) hc hk (a 2 rfl)
  obtain ⟨methF', cF, hmF', hcF, hbF, hlF, hrF, hlkF, -, hsigF⟩ := Cond.codeSync_spec hnF (a 3 rfl)
  cases hmF.symm.trans hmF'
  obtain ⟨i0', meth0', hn0', hm0', hat0, hst0, hab0, hnm0, hds0⟩ := Cond.ownMethod (x := tFill0) hc hk (a 4 rfl)
  have e3 : i0 = i0' := by have := Option.some.inj (hn0.symm.trans hn0'); simpa using this
  subst e3
  cases hm0.symm.trans hm0'
  obtain ⟨mO, methO, hnO, hmO, hstO, habO⟩ := Cond.instanceMethod_spec (a 6 rfl)
  obtain ⟨methO', cO, hmO', hcO, hbO, hlO, -, hlkO, -, hsigO⟩ := Cond.code_spec hnO (a 7 rfl)
  cases hmO.symm.trans hmO'
  obtain ⟨kO, hkO, hnameO⟩ := Vm.findClass_spec (findClass_of_methodNamed hnO)
  obtain ⟨hnmO, hdsO⟩ := name_of_methodNamed hnO hmO
  obtain ⟨ci1, n1, cf, hl1, hr1, hcf, hp1⟩ := Cond.linkedMethod hc hk hnO (a 8 rfl) pl hpl
  obtain ⟨ci27, n27, cf', hl27, hr27, hcf', hp27⟩ := Cond.linkedMethod hc hk hnF (a 9 rfl) pl hpl
  cases hcf.symm.trans hcf'
  obtain ⟨ci202, n202, cf', hl202, hr202, hcf', hp202⟩ := Cond.linkedMethod hc hk hn0 (a 10 rfl) pl hpl
  cases hcf.symm.trans hcf'
  obtain ⟨ci7, i7, f7, hk7, hg7, ha7, hs7, hf7, hn7, ht7, hff7⟩ := Cond.ownField (t := .object tN) hc hk (by decide +kernel) (a 11 rfl) (a 12 rfl) pl hpl
  obtain ⟨ci17, i17, f17, hk17, hg17, ha17, hs17, hf17, hn17, ht17, hff17⟩ := Cond.ownField (t := .array (.object "java/lang/StackTraceElement")) hc hk (by decide +kernel) (a 13 rfl) (a 14 rfl) pl hpl
  obtain ⟨ci24, i24, f24, hk24, hg24, ha24, hs24, hf24, hn24, ht24, hff24⟩ := Cond.ownField (t := .object "java/util/List") hc hk (by decide +kernel) (a 15 rfl) (a 16 rfl) pl hpl
  obtain ⟨ci13, i13, f13, aS, cellS, hk13, hg13, ha13, hs13, -, -, hsta, -, -, -, -, hff13⟩ := Cond.ownStatic (t := .array (.object "java/lang/StackTraceElement")) hc hk (by decide +kernel) (a 17 rfl) (a 18 rfl) pl hpl
  obtain ⟨ci20, i20, f20, _, _, hk20, hg20, ha20, hs20, -⟩ := Cond.ownStatic (t := .object "java/util/List") hc hk (by decide +kernel) (a 19 rfl) (a 20 rfl) pl hpl
  obtain ⟨cI, kI, cM, kM, iM, fM, hcI, hkI, hffM, hsM, hfM, -⟩ := Cond.lays_spec (a 21 rfl)
  obtain ⟨-, dS, hdS, hdnS⟩ := Cond.laysAt hcI hkI hff17 (a 14 rfl)
  obtain ⟨-, dP, hdP, hdnP⟩ := Cond.laysAt hcI hkI hff24 (a 16 rfl)
  have hapart := Cond.laysApart hdS hdP hdnS hdnP (by rw [hn17, hn24]; decide)
  have par : ∀ {x : MethodName} {meth : Method} {L : List FieldType}, parseMethodDescriptor x.desc = some meth.sig → (parseMethodDescriptor x.desc).map (·.parameters) = some L → meth.sig.parameters = L := fun h q => by rw [h] at q; simpa using q
  have pF := par hsigF (L := []) (by decide +kernel)
  have p0 := par hsig0 (L := [.int]) (by decide +kernel)
  have pO : methO.sig.parameters.length = 0 := by rw [par hsigO (L := []) (by decide +kernel)]; rfl
  refine ⟨{ cT := ct, kT := k, cO := ct, aS := aS, fillIdx := iF, fill0Idx := i0, initSIdx := iF, obj := mO, kObj := kO, methFill := methF, methFill0 := meth0, methInitS := methF, methObj := methO, codeFill := cF, codeInitS := cF, codeObj := cO, fBack := f7, fDepth := f7, fStack := f17, fCause := f7, fSupp := f24, fMsg := fM, fUnassigned := f13, fSentinel := f20, cfT := cf, ci1 := ci1, n1 := n1, ci27 := ci27, n27 := n27, ci202 := ci202, n202 := n202, ci7 := ci7, i7 := i7, ci13 := ci13, i13 := i13, ci17 := ci17, i17 := i17, ci20 := ci20, i20 := i20, ci24 := ci24, i24 := i24 }, ?_, hc, hnF, hn0, hff17, hff13, ht17, hn17⟩
  exact { owns := howns, noFinalization := hfin, cls := hk, name := hname, boot := Vm.findClass_boot hc hk, notInterface := hni, initialized := Cond.initialized_spec hc hk (a 0 rfl), statics := hsta, fillAt := hatF, fillCode := hcF, fillBytes := hbF, fillLocals := hlF, fillLocks := hlkF, fillStatic := hstF, fillAbstract := habF, fillReturns := hrF, fillParams := pF, fill0At := hat0, fill0Name := hnm0, fill0Desc := hds0, fill0Params := p0, fill0Static := hst0, fill0Native := hnat0, fill0Code := hcode0, fill0Locks := hlocks0, fill0Abstract := hab0, stackInstance := hs17, stackNotFinal := hf17, unassignedStatic := hs13, objClass := hkO, objClassName := hnameO, objMethod := hmO, objName := hnmO, objStatic := hstO, objAbstract := habO, objFound := by rw [hdsO]; exact lookupSpecial_of_named hnO hmO hstO, objParams := pO, objCode := hcO, objBytes := hbO, objLocks := hlkO, causeInstance := hs7, causeNotFinal := hf7, sentinelStatic := hs20, suppInstance := hs24, suppNotFinal := hf24, msgInstance := hsM, msgNotFinal := hfM, stackApartSupp := hapart, file := hcf, mlink1 := hl1, mright1 := hr1, pool1 := hp1, mlink27 := hl27, mright27 := hr27, pool27 := hp27, mlink202 := hl202, mright202 := hr202, pool202 := hp202, link7 := hk7, right7 := hg7, at7 := ha7, link13 := hk13, right13 := hg13, at13 := ha13, link17 := hk17, right17 := hg17, at17 := ha17, link20 := hk20, right20 := hg20, at20 := ha20, link24 := hk24, right24 := hg24, at24 := ha24 }
set_option maxHeartbeats 4000000 in
/-- fillInStackTrace() on an InvalidInputException, in the frame that has written nothing but it -/
theorem own_fill (X : Stand p l e R s m args below meth c T locs cells slots) (hx : p.tables.exec = Jvm.exec) (hl : l.stackTraces = true) (hZ : Z.Warmed39 s.vm) (hT0 : ThS Z s.heap) (hw : ∀ d ∈ tables_1, d.before a0 Z = true) (hown : s.vm.findClass tN = some m.cls) (hTK : s.vm.MethodsKnown) (hBelow : s.vm.FramesKnown below) (eT : T.heap = h) (hs0 : s.heap = h0) {a : Addr} {u w : Value} (hu : u.isRef = true)
    (E : Exa Z h a own_IIE) (N : Unt h a) (Fs : Fld Z h a tN "stackTrace" steD u) (Fb : Fld Z h a tN "backtrace" "Ljava/lang/Object;" .null) (Fm : Fld Z h a tN "detailMessage" "Ljava/lang/String;" w) (Su : Sta Z h tN "UNASSIGNED_STACK" steD u) (Nf : Fr n0 locs) (ga : n0 ≤ a) (hba : ∀ x ∈ locs, x.base = a)
    {g : JFrame} (hg : g.method = m) (hsize : g.locals.size = c.maxLocals) {rest : List Value} (hst : g.stack = .ref a :: rest) (hd : decode c.code g.pc = .ok (.invokevirtual 27, 3)) (hf : 3 ≤ R.frames) {W : Nat} (hW : 2 * g.monitorRoom + (rest.map fun v => v.category).sum ≤ W) (hlo : W + 42 ≤ R.locals) (hc : cells + 1 ≤ R.cells) (hsl : slots + 2752 ≤ R.slots) :
    ∃ T' h' L, Stand p l e R s m args below meth c T' L (cells + 1) (slots + 2752) ∧ Fr n0 L ∧ T'.heap = h' ∧ Keep h0 h' [a] ∧ Fld Z h' a tN "detailMessage" "Ljava/lang/String;" w ∧ ∀ target, Steps p.tables e below (T'.setTop { g with pc := g.pc + 3, stack := .ref a :: rest }) target → Steps p.tables e below (T.setTop g) target := by
  have A : ∀ (i : Nat) {d : Jvm.Cond}, own_TA[i]? = some d → d.before args s = true := fun i d q => have hm := List.mem_of_getElem? q; mvX hT0 hZ (List.all_eq_true.mp own_TA_ok d hm) (hw d (own_TA_in d hm))
  have htr : e.platform.stackTraces = true := by rw [X.admits.platform]; exact hl
  have howns : e.platform.frameOwnsMonitors = true := by rw [X.admits.platform]
  have hfin : e.platform.finalization = false := by rw [X.admits.platform]
  have hpl : e.platform.magicAccessors = ({} : Platform).magicAccessors := by rw [X.admits.platform]
  obtain ⟨Q, L_, y1, y2, y3, y4, y5, y6, y7⟩ := own_thr (args := args) howns hfin hpl A
  obtain ⟨cell, kc, e1, e2, e3, -, e5⟩ := E
  obtain ⟨c2, n1, n2, n3⟩ := N
  cases e1.symm.trans n1
  obtain ⟨c3, cfs, ks, is, fs, s1, s2, s3, -, -, -, s7⟩ := Fs
  cases e1.symm.trans s1
  obtain ⟨c4, cfb, kb, ib, fb, b1, b2, b3, -, -, -, b7⟩ := Fb
  cases e1.symm.trans b1
  obtain ⟨c5, cfm, km, im, fm, m1, m2, m3, m4, m5, m6, m7⟩ := Fm
  cases e1.symm.trans m1
  obtain ⟨cfu, iu, ku, fu, st, cellS, t1, t2, t3, t4, t5, t6, t7⟩ := Su
  obtain ⟨ks', qs, -⟩ := State.fieldFound?_setVm (s := Z) hZ.alike s2
  cases (show s.fieldFound? tN "stackTrace" steD = _ from qs).symm.trans y4
  obtain ⟨ku', qu, hku⟩ := State.fieldFound?_setVm (s := Z) hZ.alike t1
  have qu' : s.fieldFound? tN "UNASSIGNED_STACK" steD = some (cfu, ku', iu, fu) := qu
  have eu := Option.some.inj (qu'.symm.trans y5)
  simp only [Prod.mk.injEq] at eu
  obtain ⟨-, eu1, -, rfl⟩ := eu
  have est : st = Q.aS := by
    have q := L_.statics
    rw [← eu1, hku] at q
    exact Option.some.inj (t4.symm.trans q)
  subst est
  obtain ⟨kb', qb, -⟩ := State.fieldFound?_setVm (s := Z) hZ.alike b2
  obtain ⟨km', qm, -⟩ := State.fieldFound?_setVm (s := Z) hZ.alike m2
  have hfound : s.vm.findClass own_IIE = some cell.cls := by rw [hZ.alike.findClass]; exact e2
  obtain ⟨kX, hkX, hkr⟩ := hZ.alike.2.2 _ _ e3
  have hkX' : s.vm.classes[cell.cls]? = some kX := hkX
  obtain ⟨c6, k6, i1, i2, i3, -⟩ := Cond.instantiable_spec (A 31 rfl)
  cases hfound.symm.trans i1
  cases hkX'.symm.trans i2
  have hsz : cell.slots.size = kX.instanceTypes.size := by rw [hkr]; exact e5 (by rw [hkr] at i3; exact i3)
  have hneS : Q.aS ≠ a := fun q => by
    rw [q, e1] at t5
    cases t5
    rw [n2] at t6; cases t6
  have hsel0 : selectMethod e.platform s.vm cell.cls Q.fill0 = .method Q.fill0 := by
    obtain ⟨c2, r2, m2', q1, q2, q3, q4, -⟩ := Cond.selects_spec (A 23 rfl)
    cases hfound.symm.trans q1
    cases (State.methodFound?_of_named y3 (by decide)).symm.trans q2
    cases y3.symm.trans q3
    rw [Launch.admits_selectMethod X.admits]; exact q4
  obtain ⟨ci198, i198, fB, hk198, hg198, ha198, hsB, -, hnB, htB, hffB⟩ := Cond.ownField (t := .object "java/lang/Object") y1 L_.cls (by decide +kernel) (A 25 rfl) (A 26 rfl) e.platform hpl
  cases (show s.fieldFound? tN "backtrace" "Ljava/lang/Object;" = _ from qb).symm.trans hffB
  obtain ⟨_, _, cD, kD, iD, fD, -, -, hffD, hstD, -⟩ := Cond.lays_spec (A 30 rfl)
  cases (Cond.lays_declared (A 30 rfl) hffD).symm.trans y1
  obtain ⟨hkD, hatD⟩ := State.fieldFound?_spec hffD
  cases hkD.symm.trans L_.cls
  obtain ⟨hnD, htD⟩ := State.fieldFound?_type hffD (t := .int) (by decide +kernel)
  have hfb := Cond.soleField_find y1 L_.cls (A 28 rfl) ha198 hnB hsB
  have hfd := Cond.soleField_find y1 L_.cls (A 29 rfl) hatD hnD hstD
  obtain ⟨comp, cO, kO, -, -, hkO, hkindO, hO⟩ := Cond.arrayOver_spec (A 27 rfl)
  have hffM : s.fieldFound? tN "detailMessage" "Ljava/lang/String;" = some (cfm, km', im, fm) := qm
  obtain ⟨tyS, dS, hdS, hdnS⟩ := Cond.laysAt hfound hkX' y4 (A 14 rfl)
  obtain ⟨-, dM, hdM, hdnM⟩ := Cond.laysAt hfound hkX' hffM (A 21 rfl)
  obtain ⟨tyB, dB, hdB, hdnB⟩ := Cond.laysAt hfound hkX' hffB (A 26 rfl)
  obtain ⟨tyD, dD, hdD, hdnD⟩ := Cond.laysAt hfound hkX' hffD (A 30 rfl)
  have nmM := (State.fieldFound?_type hffM (t := .object "java/lang/String") (by decide +kernel)).1
  have mS := Cond.laysApart hdM hdS hdnM hdnS (by rw [nmM, y7]; decide)
  have mB := Cond.laysApart hdM hdB hdnM hdnB (by rw [nmM, hnB]; decide)
  have mD := Cond.laysApart hdM hdD hdnM hdnD (by rw [nmM, hnD]; decide)
  have tk : ∀ {f : Field} {v : Value}, kX.instanceTypes[f.slot]? = some f.type → fits f.type v = true → Jvm.Takes s cell f v := fun {f v} h1 h2 => by
    obtain ⟨q1, q2⟩ := Takes.of_laid (v := v) hkX' i3 h1 h2
    exact ⟨by rw [hsz]; simpa using q1, by rw [n2]; exact q2⟩
  have hSE : (Jvm.Cond.selects own_IIE tFill tFill).before args s = true := A 24 rfl
  obtain ⟨v6, vm6, ⟨T6, L6, c6, n6⟩, hW6, X6, ⟨hv6, C6, n, hn, hD6, q1, q2, q3, q4, hL6, hc6, hn6⟩, come⟩ := X.virtualBack hx (own := tN) (C := own_IIE) (index := 27) (y := tFill) (z := tFill) hown (A 9 rfl) (A 22 rfl) (notFace_of_selects hSE) hSE (A 2 rfl) (by decide)
    (Jvm.Free.Exc.fillPaysAny (l := l) (W := W) hx htr Q L_ y2 (u0 := ⟨u, hu⟩) (self := a) (cell := cell) (cellS := cellS) (fun _ => by rw [n2]; simp) (by rw [n2]; simp) (by rw [n3]) (by rw [n3]) s7 hsel0 hneS (fun q => by rw [q] at t6; cases t6) t7 (tk tyS (by rw [y6]; exact fits_refV_array _ ⟨u, hu⟩))
      ⟨{ ci198 := ci198, i198 := ib, fBack := fb }, ⟨hk198, hg198, ha198, hsB⟩, b7⟩ hTK hBelow y1 hO hkO hkindO hfb hfd
      (fun x => tk tyB (by rw [htB]; rfl)) (fun x => tk tyD (by rw [htD]; rfl)) (by omega) (by omega))
    (b := a) (cB := cell.cls) hfound ⟨cell, by rw [eT]; exact e1, rfl, by rw [n2]; rfl⟩ (g := g) hg hsize (Steps.refl _) (argsL := []) (rest := rest)
    (fun sig h => by rw [show parseMethodDescriptor tFill.desc = some ⟨[], some (.object tN)⟩ from by decide +kernel] at h; rw [← Option.some.inj h]; rfl) hst hW hd
    (fun vmx hWx => ⟨rfl, hc, hsl, by show T.heap[a]? = _; rw [eT]; exact e1, by show T.heap[Q.aS]? = _; rw [eT]; exact t5⟩)
  dsimp only [Pt.U, Pt.locs, Pt.cells, Pt.slots] at X6 hD6 hL6 hc6 hn6 come
  subst hv6 hc6 hn6
  have hbL : ∀ x ∈ L6, x.base = a := fun x hxx => by
    rw [hL6] at hxx
    rcases List.mem_append.mp hxx with q | q
    · exact hba x q
    · simp only [List.mem_cons, List.not_mem_nil, or_false] at q
      rcases q with rfl | rfl | rfl <;> rfl
  have hK : Jvm.Free.Exc.Kept s T6 L6 := fun y cy hy => X6.same.2.2.2.2.2 y cy hy
  have hKeep : Keep h0 T6.heap [a] := by
    rw [← hs0]
    refine ⟨X6.same.2.1, fun x cl q ne => hK.other hbL (by simpa using ne) q, fun x cl q => ?_⟩
    obtain ⟨c', r1, r2, r3, -⟩ := hK x cl q
    exact ⟨c', r1, by rw [r2], by rw [r2], r3⟩
  refine ⟨T6, _, L6, X6.more (Nat.le_refl _) (by omega), fun x hxx => by rw [hbL x hxx]; exact ga, rfl, hKeep, ⟨C6, cfm, km, im, fm, hD6, m2, m3, by rw [q2]; exact m4, by rw [q2]; exact m5, by rw [q1]; exact m6, (q4 _ mB mD mS).trans m7⟩, fun target k => come.trans k⟩
theorem own_hideA {sl : Nat} {a : Addr} (X : Stand p l e R s m args below meth c T (locs ++ [⟨a, sl⟩]) cells slots) (N : Fr n0 locs) (q : n0 ≤ a) (B : ∀ x ∈ locs, x.base = a) : ∃ L, Stand p l e R s m args below meth c T L cells slots ∧ Fr n0 L ∧ ∀ x ∈ L, x.base = a := ⟨_, X, Fr.snoc X N q, fun x hx => by
  rcases List.mem_append.mp hx with r | r
  · exact B x r
  · cases List.mem_singleton.mp r; rfl⟩
theorem own_nar_refA {u : Value} {t : FieldType} (hu : u.isRef = true) : narrow (.array t) u = u := by rcases ref_cases hu with rfl | ⟨z, rfl⟩ <;> rfl
theorem own_fit_refA {u : Value} {t : FieldType} (hu : u.isRef = true) : fits (.array t) u = true := by rcases ref_cases hu with rfl | ⟨z, rfl⟩ <;> rfl
end Own3

abbrev k51 : ByteArray := jdk_78_method_2_code
theorem d51_0 : decode k51 0 = .ok (.aload_n 0, 1) := by decide +kernel
theorem d51_1 : decode k51 1 = .ok (.invokespecial 1, 3) := by decide +kernel
theorem d51_4 : decode k51 4 = .ok (.aload_n 0, 1) := by decide +kernel
theorem d51_5 : decode k51 5 = .ok (.aload_n 0, 1) := by decide +kernel
theorem d51_6 : decode k51 6 = .ok (.putfield 7, 3) := by decide +kernel
theorem d51_9 : decode k51 9 = .ok (.aload_n 0, 1) := by decide +kernel
theorem d51_10 : decode k51 10 = .ok (.getstatic 13, 3) := by decide +kernel
theorem d51_13 : decode k51 13 = .ok (.putfield 17, 3) := by decide +kernel
theorem d51_16 : decode k51 16 = .ok (.aload_n 0, 1) := by decide +kernel
theorem d51_17 : decode k51 17 = .ok (.getstatic 20, 3) := by decide +kernel
theorem d51_20 : decode k51 20 = .ok (.putfield 24, 3) := by decide +kernel
theorem d51_23 : decode k51 23 = .ok (.aload_n 0, 1) := by decide +kernel
theorem d51_24 : decode k51 24 = .ok (.invokevirtual 27, 3) := by decide +kernel
theorem d51_27 : decode k51 27 = .ok (.pop, 1) := by decide +kernel
theorem d51_28 : decode k51 28 = .ok (.aload_n 0, 1) := by decide +kernel
theorem d51_29 : decode k51 29 = .ok (.aload_n 1, 1) := by decide +kernel
theorem d51_30 : decode k51 30 = .ok (.putfield 31, 3) := by decide +kernel
theorem d51_33 : decode k51 33 = .ok (.return_, 1) := by decide +kernel
abbrev y_51 : MethodName := ⟨"java/lang/Throwable", "<init>", "(Ljava/lang/String;)V"⟩
abbrev r_tini : Room := { frames := 3, cells := 1, slots := 2752, locals := 42 }
theorem pn_8 : plainName "java/lang/Throwable" = true := by first | (simp [plainName, overriddenIn]; done) | decide +kernel
theorem ef_tini (mt : MethodId) (a : Addr) (m_ : Addr) : entryFrame mt #[(.ref a), (.ref m_)] 2 = mkF mt 0 #[.val (.ref a), .val (.ref m_)] [] := by first | (simp [entryFrame, mkF, argsToLocals, Value.category]; done) | rfl
def Q_tini (Z : State) (a : Addr) (m_ : Addr) (h0 : Heap) (n0 : Nat) (v : Option Value) (h : Heap) (L : List Loc) : Prop := v = none ∧ Fr n0 L ∧ Keep h0 h [a] ∧ Fld Z h a "java/lang/Throwable" "detailMessage" "Ljava/lang/String;" (.ref m_)
theorem rm_tini (l : Launch) (Z : State) (a0 : Array Value) (hw : ∀ d ∈ tables_1, d.before a0 Z = true) (ws : List Jvm.Cond) (a : Addr) (m_ : Addr) (h0 : Heap) (n0 : Nat) (Z0 : n0 ≤ h0.size) (E : Exa Z h0 a "com/example/kwerx/kwerx/InvalidInputException") (Nu : Unt h0 a) (Fca : Fld Z h0 a "java/lang/Throwable" "cause" "Ljava/lang/Throwable;" .null) (Fst : Fld Z h0 a "java/lang/Throwable" "stackTrace" "[Ljava/lang/StackTraceElement;" .null) (Fsu : Fld Z h0 a "java/lang/Throwable" "suppressedExceptions" "Ljava/util/List;" .null) (Fbt : Fld Z h0 a "java/lang/Throwable" "backtrace" "Ljava/lang/Object;" .null) (Fdm : Fld Z h0 a "java/lang/Throwable" "detailMessage" "Ljava/lang/String;" .null) (ga : n0 ≤ a) (hlt : l.stackTraces = true) (h2r : ∀ d ∈ Jvm.RoadKit.twoRefs, d.before a0 Z = true) (O : Old Z n0 h0) :
    MetFree l y_51 (head1 (Jvm.Cond.code y_51 k51 2 none :: ws) r_tini) (fun aa UU => aa = #[(.ref a), (.ref m_)] ∧ Z.Warmed39 UU.vm ∧ UU.heap = h0) (fun _ _ bl s _ => s.vm.MethodsKnown ∧ s.vm.FramesKnown bl) (fun _ UU oo UU' => ∃ vv LL, oo = .returned vv ∧ Q_tini Z a m_ h0 n0 vv UU'.heap LL ∧ FrameEnd UU oo UU' LL r_tini.cells r_tini.slots) := by
  refine MetFree.of_bodySF (plainFor_of_name pn_8) hisR ?_
  intro p e s mt args below meth cd s₁ Bd hml0 hP hK
  obtain ⟨hA, hZ, hh⟩ := hP
  have hx := Bd.exec
  have hby := Bd.bytes
  have hml : cd.maxLocals = 2 := hml0
  have hown : s.vm.findClass "java/lang/Throwable" = some mt.cls := findClass_of_methodNamed Bd.named
  have hlk : meth.locks = false := BodyLoose.notSynchronized Bd
  have hrt := Bd.returns
  have X0 : Stand p l e r_tini s mt args below meth cd s₁ [] 0 0 := Stand.of_body Bd
  have e0 : s₁.heap = h0 := by rw [← hh, Bd.state]; rfl
  have N0 := Fr.nil n0
  show Win p e below (Ends s (Q_tini Z a m_ h0 n0) r_tini.cells r_tini.slots) s₁ (entryFrame mt args 2)
  rw [hA, ef_tini]
  obtain ⟨u0, ev0, hu0⟩ := isR_v (Cond.before_iff.mp (h2r _ (List.mem_of_getElem? (i := 0) rfl)))
  have S0 := Sta.start ev0 (Or.inr ⟨(ow hw 158 rfl), (ow hw 189 rfl)⟩)
  obtain ⟨u1, ev1, hu1⟩ := isR_v (Cond.before_iff.mp (h2r _ (List.mem_of_getElem? (i := 1) rfl)))
  have S1 := Sta.start ev1 (Or.inr ⟨(ow hw 158 rfl), (ow hw 190 rfl)⟩)
  refine w_aloadN X0 hx hby d51_0 rfl rfl ?_
  show Win _ _ _ _ s₁ (mkF mt 1 #[.val (.ref a), .val (.ref m_)] [(.ref a)])
  obtain ⟨T670, X670, e670, st670⟩ := initO X0 hx hZ hown (ow hw 160 rfl) (ow hw 16 rfl) (ow hw 17 rfl) e0 (g := (mkF mt 1 #[.val (.ref a), .val (.ref m_)] [(.ref a)])) rfl (by rw [hml]; rfl) rfl (hb hby d51_1) (by decide) (W := 0) (by show 2 * 0 + _ ≤ _; exact Nat.le_of_eq rfl) (by decide)
  refine Win.st ?_ st670
  refine w_aloadN X670 hx hby d51_4 rfl rfl ?_
  refine w_aloadN X670 hx hby d51_5 rfl rfl ?_
  show Win _ _ _ _ T670 (mkF mt 6 #[.val (.ref a), .val (.ref m_)] [(.ref a), (.ref a)])
  obtain ⟨T671, h671, X671, e671, W671, st671⟩ := putF X670 hx hZ hown (host := "") (Or.inl (ow hw 161 rfl)) Via.refl e670 Fca E (Or.inl (ow hw 162 rfl)) (ow hw 31 rfl) (ty := (.object "java/lang/Throwable")) (by decide) rfl rfl (g := (mkF mt 6 #[.val (.ref a), .val (.ref m_)] [(.ref a), (.ref a)])) rfl rfl (hb hby d51_6)
  obtain ⟨L671, X671, N671, B671⟩ := own_hideA X671 N0 ga (fun x q => nomatch q)
  have kp671 := Keep.of_wr W671
  have un671 := Unt.wr W671 Nu
  have f671_16 := Fst.other W671 (Or.inr (slot_ne (Or.inl (ow hw 165 rfl)) (Or.inl (ow hw 162 rfl)) (by decide) (t := (.array (.object "java/lang/StackTraceElement"))) (t' := (.object "java/lang/Throwable")) (by decide) (by decide)))
  have f671_17 := Fsu.other W671 (Or.inr (slot_ne (Or.inl (ow hw 168 rfl)) (Or.inl (ow hw 162 rfl)) (by decide) (t := (.object "java/util/List")) (t' := (.object "java/lang/Throwable")) (by decide) (by decide)))
  have f671_18 := Fbt.other W671 (Or.inr (slot_ne (Or.inl (ow hw 193 rfl)) (Or.inl (ow hw 162 rfl)) (by decide) (t := (.object "java/lang/Object")) (t' := (.object "java/lang/Throwable")) (by decide) (by decide)))
  have f671_19 := Fdm.other W671 (Or.inr (slot_ne (Or.inl (ow hw 192 rfl)) (Or.inl (ow hw 162 rfl)) (by decide) (t := (.object "java/lang/String")) (t' := (.object "java/lang/Throwable")) (by decide) (by decide)))
  have f672_20 := O.keep kp671 (allS ga all0)
  have f672_21 := E.keep kp671
  refine Win.st ?_ st671
  refine w_aloadN X671 hx hby d51_9 rfl rfl ?_
  obtain ⟨T675, X675, e675, st675⟩ := getS2 X671 hx hZ hown (host := "") (Or.inl (ow hw 163 rfl)) Via.refl e671 (S0.ext f672_20.2) (g := (mkF mt 10 #[.val (.ref a), .val (.ref m_)] [(.ref a)])) rfl (hb hby d51_10)
  refine Win.st ?_ st675
  show Win _ _ _ _ T675 (mkF mt 13 #[.val (.ref a), .val (.ref m_)] [u0, (.ref a)])
  obtain ⟨T676, h676, X676, e676, W676, st676⟩ := putF X675 hx hZ hown (host := "") (Or.inl (ow hw 164 rfl)) Via.refl e675 f671_16 f672_21 (Or.inl (ow hw 165 rfl)) (ow hw 31 rfl) (ty := (.array (.object "java/lang/StackTraceElement"))) (by decide) (own_nar_refA hu0) (own_fit_refA hu0) (g := (mkF mt 13 #[.val (.ref a), .val (.ref m_)] [u0, (.ref a)])) rfl rfl (hb hby d51_13)
  obtain ⟨L676, X676, N676, B676⟩ := own_hideA X676 N671 ga B671
  have kp676 := Keep.of_wr W676
  have un676 := Unt.wr W676 un671
  have fw676 := f671_16.same W676
  have f676_35 := f671_17.other W676 (Or.inr (slot_ne (Or.inl (ow hw 168 rfl)) (Or.inl (ow hw 165 rfl)) (by decide) (t := (.object "java/util/List")) (t' := (.array (.object "java/lang/StackTraceElement"))) (by decide) (by decide)))
  have f676_36 := f671_18.other W676 (Or.inr (slot_ne (Or.inl (ow hw 193 rfl)) (Or.inl (ow hw 165 rfl)) (by decide) (t := (.object "java/lang/Object")) (t' := (.array (.object "java/lang/StackTraceElement"))) (by decide) (by decide)))
  have f676_37 := f671_19.other W676 (Or.inr (slot_ne (Or.inl (ow hw 192 rfl)) (Or.inl (ow hw 165 rfl)) (by decide) (t := (.object "java/lang/String")) (t' := (.array (.object "java/lang/StackTraceElement"))) (by decide) (by decide)))
  have f677_38 := f672_20.keep kp676 (allS ga all0)
  have f677_39 := f672_21.keep kp676
  refine Win.st ?_ st676
  refine w_aloadN X676 hx hby d51_16 rfl rfl ?_
  obtain ⟨T680, X680, e680, st680⟩ := getS2 X676 hx hZ hown (host := "") (Or.inl (ow hw 166 rfl)) Via.refl e676 (S1.ext f677_38.2) (g := (mkF mt 17 #[.val (.ref a), .val (.ref m_)] [(.ref a)])) rfl (hb hby d51_17)
  refine Win.st ?_ st680
  show Win _ _ _ _ T680 (mkF mt 20 #[.val (.ref a), .val (.ref m_)] [u1, (.ref a)])
  obtain ⟨T681, h681, X681, e681, W681, st681⟩ := putF X680 hx hZ hown (host := "") (Or.inl (ow hw 167 rfl)) Via.refl e680 f676_35 f677_39 (Or.inl (ow hw 168 rfl)) (ow hw 31 rfl) (ty := (.object "java/util/List")) (by decide) (own_nar_ref hu1) (own_fit_ref hu1) (g := (mkF mt 20 #[.val (.ref a), .val (.ref m_)] [u1, (.ref a)])) rfl rfl (hb hby d51_20)
  obtain ⟨L681, X681, N681, B681⟩ := own_hideA X681 N676 ga B676
  have kp681 := Keep.of_wr W681
  have un681 := Unt.wr W681 un676
  have f681_52 := fw676.other W681 (Or.inr (slot_ne (Or.inl (ow hw 165 rfl)) (Or.inl (ow hw 168 rfl)) (by decide) (t := (.array (.object "java/lang/StackTraceElement"))) (t' := (.object "java/util/List")) (by decide) (by decide)))
  have f681_54 := f676_36.other W681 (Or.inr (slot_ne (Or.inl (ow hw 193 rfl)) (Or.inl (ow hw 168 rfl)) (by decide) (t := (.object "java/lang/Object")) (t' := (.object "java/util/List")) (by decide) (by decide)))
  have f681_55 := f676_37.other W681 (Or.inr (slot_ne (Or.inl (ow hw 192 rfl)) (Or.inl (ow hw 168 rfl)) (by decide) (t := (.object "java/lang/String")) (t' := (.object "java/util/List")) (by decide) (by decide)))
  have f682_56 := f677_38.keep kp681 (allS ga all0)
  have f682_57 := f677_39.keep kp681
  refine Win.st ?_ st681
  refine w_aloadN X681 hx hby d51_23 rfl rfl ?_
  show Win _ _ _ _ T681 (mkF mt 24 #[.val (.ref a), .val (.ref m_)] [(.ref a)])
  obtain ⟨T685, h685, L685, X685, N685, e685, kk685, Fm685, st685⟩ := own_fill X681 hx hlt hZ (by have q := ThS.start.ext O.2; rw [← hh] at q; exact q) hw hown hK.1 hK.2 e681 hh hu0 f682_57 un681 f681_52 f681_54 f681_55 (S0.ext f682_56.2) N681 ga B681 (g := (mkF mt 24 #[.val (.ref a), .val (.ref m_)] [(.ref a)])) rfl (by rw [hml]; rfl) (rest := []) rfl (hb hby d51_24) (by decide) (W := 0) (wz rfl) (by decide) (by decide) (by decide)
  replace X685 : Stand p l e _ s mt args below meth cd T685 L685 1 2752 := X685
  have O685 := O.keep kk685 (allS ga all0)
  have E685 := E.keep kk685
  refine Win.st ?_ st685
  show Win _ _ _ _ T685 (mkF mt 27 #[.val (.ref a), .val (.ref m_)] [(.ref a)])
  refine Win.st ?_ (fun tq kq => XS.pop X685.here hx rfl (hb hby d51_27) rfl rfl kq)
  refine w_aloadN X685 hx hby d51_28 rfl rfl ?_
  refine w_aloadN X685 hx hby d51_29 rfl rfl ?_
  show Win _ _ _ _ T685 (mkF mt 30 #[.val (.ref a), .val (.ref m_)] [(.ref m_), (.ref a)])
  obtain ⟨T686, h686, X686, e686, W686, st686⟩ := putF X685 hx hZ hown (host := "") (Or.inl (ow hw 196 rfl)) Via.refl e685 Fm685 E685 (Or.inl (ow hw 192 rfl)) (ow hw 31 rfl) (ty := (.object "java/lang/String")) (by decide) rfl rfl (g := (mkF mt 30 #[.val (.ref a), .val (.ref m_)] [(.ref m_), (.ref a)])) rfl rfl (hb hby d51_30)
  obtain ⟨L686, X686, N686⟩ := own_hide X686 N685 ga
  have kp686 := Keep.of_wr W686
  have fw686 := Fm685.same W686
  have K689 : Keep h0 h686 [a] := Keep.trans kk685 kp686 (allS (Or.inl (List.mem_of_getElem? (i := 0) rfl)) all0)
  refine Win.st ?_ st686
  show Win _ _ _ _ T686 (mkF mt 33 #[.val (.ref a), .val (.ref m_)] [])
  exact Win.retV X686 hx hlk e686 hrt (hb hby d51_33) (by decide) (by decide) ⟨rfl, N686, K689, fw686⟩
abbrev k52 : ByteArray := jdk_59_method_2_code
theorem d52_0 : decode k52 0 = .ok (.aload_n 0, 1) := by decide +kernel
theorem d52_1 : decode k52 1 = .ok (.aload_n 1, 1) := by decide +kernel
theorem d52_2 : decode k52 2 = .ok (.invokespecial 7, 3) := by decide +kernel
theorem d52_5 : decode k52 5 = .ok (.return_, 1) := by decide +kernel
abbrev y_52 : MethodName := ⟨"java/lang/Exception", "<init>", "(Ljava/lang/String;)V"⟩
abbrev r_eini : Room := { frames := 4, cells := 1, slots := 2752, locals := 55 }
theorem pn_9 : plainName "java/lang/Exception" = true := by first | (simp [plainName, overriddenIn]; done) | decide +kernel
theorem ef_eini (mt : MethodId) (a : Addr) (m_ : Addr) : entryFrame mt #[(.ref a), (.ref m_)] 2 = mkF mt 0 #[.val (.ref a), .val (.ref m_)] [] := by first | (simp [entryFrame, mkF, argsToLocals, Value.category]; done) | rfl
def Q_eini (Z : State) (a : Addr) (m_ : Addr) (h0 : Heap) (n0 : Nat) (v : Option Value) (h : Heap) (L : List Loc) : Prop := v = none ∧ Fr n0 L ∧ Keep h0 h [a] ∧ Fld Z h a "java/lang/Throwable" "detailMessage" "Ljava/lang/String;" (.ref m_)
theorem rm_eini (l : Launch) (Z : State) (a0 : Array Value) (hw : ∀ d ∈ tables_1, d.before a0 Z = true) (ws : List Jvm.Cond) (a : Addr) (m_ : Addr) (h0 : Heap) (n0 : Nat) (Z0 : n0 ≤ h0.size) (E : Exa Z h0 a "com/example/kwerx/kwerx/InvalidInputException") (Nu : Unt h0 a) (Fca : Fld Z h0 a "java/lang/Throwable" "cause" "Ljava/lang/Throwable;" .null) (Fst : Fld Z h0 a "java/lang/Throwable" "stackTrace" "[Ljava/lang/StackTraceElement;" .null) (Fsu : Fld Z h0 a "java/lang/Throwable" "suppressedExceptions" "Ljava/util/List;" .null) (Fbt : Fld Z h0 a "java/lang/Throwable" "backtrace" "Ljava/lang/Object;" .null) (Fdm : Fld Z h0 a "java/lang/Throwable" "detailMessage" "Ljava/lang/String;" .null) (ga : n0 ≤ a) (hlt : l.stackTraces = true) (h2r : ∀ d ∈ Jvm.RoadKit.twoRefs, d.before a0 Z = true) (O : Old Z n0 h0) :
    MetFree l y_52 (head1 (Jvm.Cond.code y_52 k52 2 none :: ws) r_eini) (fun aa UU => aa = #[(.ref a), (.ref m_)] ∧ Z.Warmed39 UU.vm ∧ UU.heap = h0) (fun _ _ bl s _ => s.vm.MethodsKnown ∧ s.vm.FramesKnown bl) (fun _ UU oo UU' => ∃ vv LL, oo = .returned vv ∧ Q_eini Z a m_ h0 n0 vv UU'.heap LL ∧ FrameEnd UU oo UU' LL r_eini.cells r_eini.slots) := by
  refine MetFree.of_bodySF (plainFor_of_name pn_9) hisR ?_
  intro p e s mt args below meth cd s₁ Bd hml0 hP hK
  obtain ⟨hA, hZ, hh⟩ := hP
  have hx := Bd.exec
  have hby := Bd.bytes
  have hml : cd.maxLocals = 2 := hml0
  have hown : s.vm.findClass "java/lang/Exception" = some mt.cls := findClass_of_methodNamed Bd.named
  have hlk : meth.locks = false := BodyLoose.notSynchronized Bd
  have hrt := Bd.returns
  have X0 : Stand p l e r_eini s mt args below meth cd s₁ [] 0 0 := Stand.of_body Bd
  have e0 : s₁.heap = h0 := by rw [← hh, Bd.state]; rfl
  have N0 := Fr.nil n0
  show Win p e below (Ends s (Q_eini Z a m_ h0 n0) r_eini.cells r_eini.slots) s₁ (entryFrame mt args 2)
  rw [hA, ef_eini]
  refine w_aloadN X0 hx hby d52_0 rfl rfl ?_
  refine w_aloadN X0 hx hby d52_1 rfl rfl ?_
  show Win _ _ _ _ s₁ (mkF mt 2 #[.val (.ref a), .val (.ref m_)] [(.ref m_), (.ref a)])
  obtain ⟨v690, _, ⟨T690, L690, k690, n690⟩, -, X690, ⟨Lc690, hQ690, l690, rfl, rfl⟩, st690⟩ := X0.specialBack hx (y := y_51) rfl hown (mvT hZ (ow hw 154 rfl)) (mvT hZ (ow hw 155 rfl)) (mvT hZ (ow hw 159 rfl)) (by decide) (backOfKL (W := 0) (rm_tini l Z a0 hw [] a m_ h0 n0 Z0 E Nu Fca Fst Fsu Fbt Fdm ga hlt h2r O) hZ (ow hw 159 rfl) (ow hw 158 rfl) (by decide) (by decide) hK.1 hK.2) (g := (mkF mt 2 #[.val (.ref a), .val (.ref m_)] [(.ref m_), (.ref a)])) rfl (by rw [hml]; rfl) (Steps.refl _) (a := a) (argsL := [(.ref m_)]) (rest := []) (lenOf pd_25 rfl) rfl (wz rfl) (hb hby d52_2) (fun _ _ => ⟨rfl, e0, (by decide : 0 + 1 ≤ _), (by decide : 0 + 2752 ≤ _)⟩)
  replace X690 : Stand p l e _ s mt args below meth cd T690 L690 1 2752 := X690
  obtain ⟨h690, e690⟩ : ∃ z, T690.heap = z := ⟨_, rfl⟩
  rw [e690] at hQ690
  obtain ⟨rfl, Nq690, K690, Fm690⟩ := hQ690
  have N690 := own_fr (L := L690) l690 N0 Nq690
  have K693 : Keep h0 h690 [a] := Keep.trans (Keep.refl h0 [a]) K690 (allS (Or.inl (List.mem_of_getElem? (i := 0) rfl)) all0)
  refine Win.tr ?_ st690
  show Win _ _ _ _ T690 (mkF mt 5 #[.val (.ref a), .val (.ref m_)] [])
  exact Win.retV X690 hx hlk e690 hrt (hb hby d52_5) (by decide) (by decide) ⟨rfl, N690, K693, Fm690⟩
abbrev k53 : ByteArray := prog_1_method_1_code
theorem d53_0 : decode k53 0 = .ok (.aload_n 0, 1) := by decide +kernel
theorem d53_1 : decode k53 1 = .ok (.aload_n 1, 1) := by decide +kernel
theorem d53_2 : decode k53 2 = .ok (.invokespecial 1, 3) := by decide +kernel
theorem d53_5 : decode k53 5 = .ok (.return_, 1) := by decide +kernel
abbrev y_53 : MethodName := ⟨"com/example/kwerx/kwerx/InvalidInputException", "<init>", "(Ljava/lang/String;)V"⟩
abbrev r_iini : Room := { frames := 5, cells := 1, slots := 2752, locals := 68 }
theorem pn_10 : plainName "com/example/kwerx/kwerx/InvalidInputException" = true := by first | (simp [plainName, overriddenIn]; done) | decide +kernel
theorem ef_iini (mt : MethodId) (a : Addr) (m_ : Addr) : entryFrame mt #[(.ref a), (.ref m_)] 2 = mkF mt 0 #[.val (.ref a), .val (.ref m_)] [] := by first | (simp [entryFrame, mkF, argsToLocals, Value.category]; done) | rfl
def Q_iini (Z : State) (a : Addr) (m_ : Addr) (h0 : Heap) (n0 : Nat) (v : Option Value) (h : Heap) (L : List Loc) : Prop := v = none ∧ Fr n0 L ∧ Keep h0 h [a] ∧ Fld Z h a "java/lang/Throwable" "detailMessage" "Ljava/lang/String;" (.ref m_)
theorem rm_iini (l : Launch) (Z : State) (a0 : Array Value) (hw : ∀ d ∈ tables_1, d.before a0 Z = true) (ws : List Jvm.Cond) (a : Addr) (m_ : Addr) (h0 : Heap) (n0 : Nat) (Z0 : n0 ≤ h0.size) (E : Exa Z h0 a "com/example/kwerx/kwerx/InvalidInputException") (Nu : Unt h0 a) (Fca : Fld Z h0 a "java/lang/Throwable" "cause" "Ljava/lang/Throwable;" .null) (Fst : Fld Z h0 a "java/lang/Throwable" "stackTrace" "[Ljava/lang/StackTraceElement;" .null) (Fsu : Fld Z h0 a "java/lang/Throwable" "suppressedExceptions" "Ljava/util/List;" .null) (Fbt : Fld Z h0 a "java/lang/Throwable" "backtrace" "Ljava/lang/Object;" .null) (Fdm : Fld Z h0 a "java/lang/Throwable" "detailMessage" "Ljava/lang/String;" .null) (ga : n0 ≤ a) (hlt : l.stackTraces = true) (h2r : ∀ d ∈ Jvm.RoadKit.twoRefs, d.before a0 Z = true) (O : Old Z n0 h0) :
    MetFree l y_53 (head1 (Jvm.Cond.code y_53 k53 2 none :: ws) r_iini) (fun aa UU => aa = #[(.ref a), (.ref m_)] ∧ Z.Warmed39 UU.vm ∧ UU.heap = h0) (fun _ _ bl s _ => s.vm.MethodsKnown ∧ s.vm.FramesKnown bl) (fun _ UU oo UU' => ∃ vv LL, oo = .returned vv ∧ Q_iini Z a m_ h0 n0 vv UU'.heap LL ∧ FrameEnd UU oo UU' LL r_iini.cells r_iini.slots) := by
  refine MetFree.of_bodySF (plainFor_of_name pn_10) hisR ?_
  intro p e s mt args below meth cd s₁ Bd hml0 hP hK
  obtain ⟨hA, hZ, hh⟩ := hP
  have hx := Bd.exec
  have hby := Bd.bytes
  have hml : cd.maxLocals = 2 := hml0
  have hown : s.vm.findClass "com/example/kwerx/kwerx/InvalidInputException" = some mt.cls := findClass_of_methodNamed Bd.named
  have hlk : meth.locks = false := BodyLoose.notSynchronized Bd
  have hrt := Bd.returns
  have X0 : Stand p l e r_iini s mt args below meth cd s₁ [] 0 0 := Stand.of_body Bd
  have e0 : s₁.heap = h0 := by rw [← hh, Bd.state]; rfl
  have N0 := Fr.nil n0
  show Win p e below (Ends s (Q_iini Z a m_ h0 n0) r_iini.cells r_iini.slots) s₁ (entryFrame mt args 2)
  rw [hA, ef_iini]
  refine w_aloadN X0 hx hby d53_0 rfl rfl ?_
  refine w_aloadN X0 hx hby d53_1 rfl rfl ?_
  show Win _ _ _ _ s₁ (mkF mt 2 #[.val (.ref a), .val (.ref m_)] [(.ref m_), (.ref a)])
  obtain ⟨v694, _, ⟨T694, L694, k694, n694⟩, -, X694, ⟨Lc694, hQ694, l694, rfl, rfl⟩, st694⟩ := X0.specialBack hx (y := y_52) rfl hown (mvT hZ (ow hw 149 rfl)) (mvT hZ (ow hw 150 rfl)) (mvT hZ (ow hw 153 rfl)) (by decide) (backOfKL (W := 0) (rm_eini l Z a0 hw [] a m_ h0 n0 Z0 E Nu Fca Fst Fsu Fbt Fdm ga hlt h2r O) hZ (ow hw 153 rfl) (ow hw 152 rfl) (by decide) (by decide) hK.1 hK.2) (g := (mkF mt 2 #[.val (.ref a), .val (.ref m_)] [(.ref m_), (.ref a)])) rfl (by rw [hml]; rfl) (Steps.refl _) (a := a) (argsL := [(.ref m_)]) (rest := []) (lenOf pd_25 rfl) rfl (wz rfl) (hb hby d53_2) (fun _ _ => ⟨rfl, e0, (by decide : 0 + 1 ≤ _), (by decide : 0 + 2752 ≤ _)⟩)
  replace X694 : Stand p l e _ s mt args below meth cd T694 L694 1 2752 := X694
  obtain ⟨h694, e694⟩ : ∃ z, T694.heap = z := ⟨_, rfl⟩
  rw [e694] at hQ694
  obtain ⟨rfl, Nq694, K694, Fm694⟩ := hQ694
  have N694 := own_fr (L := L694) l694 N0 Nq694
  have K697 : Keep h0 h694 [a] := Keep.trans (Keep.refl h0 [a]) K694 (allS (Or.inl (List.mem_of_getElem? (i := 0) rfl)) all0)
  refine Win.tr ?_ st694
  show Win _ _ _ _ T694 (mkF mt 5 #[.val (.ref a), .val (.ref m_)] [])
  exact Win.retV X694 hx hlk e694 hrt (hb hby d53_5) (by decide) (by decide) ⟨rfl, N694, K697, Fm694⟩
abbrev k54 : ByteArray := prog_4_method_13_code
theorem d54_0 : decode k54 0 = .ok (.new 161, 3) := by decide +kernel
theorem d54_3 : decode k54 3 = .ok (.dup, 1) := by decide +kernel
theorem d54_4 : decode k54 4 = .ok (.new 71, 3) := by decide +kernel
theorem d54_7 : decode k54 7 = .ok (.dup, 1) := by decide +kernel
theorem d54_8 : decode k54 8 = .ok (.invokespecial 73, 3) := by decide +kernel
theorem d54_11 : decode k54 11 = .ok (.aload_n 0, 1) := by decide +kernel
theorem d54_12 : decode k54 12 = .ok (.invokevirtual 76, 3) := by decide +kernel
theorem pd_35 : parseMethodDescriptor "(Ljava/lang/String;)Ljava/lang/StringBuilder;" = some ⟨[(.object "java/lang/String")], some (.object "java/lang/StringBuilder")⟩ := by decide +kernel
theorem d54_15 : decode k54 15 = .ok (.ldc 163, 2) := by decide +kernel
theorem d54_17 : decode k54 17 = .ok (.invokevirtual 76, 3) := by decide +kernel
theorem d54_20 : decode k54 20 = .ok (.aload_n 1, 1) := by decide +kernel
theorem d54_21 : decode k54 21 = .ok (.invokevirtual 76, 3) := by decide +kernel
theorem d54_24 : decode k54 24 = .ok (.ldc 165, 2) := by decide +kernel
theorem d54_26 : decode k54 26 = .ok (.invokevirtual 76, 3) := by decide +kernel
theorem d54_29 : decode k54 29 = .ok (.invokevirtual 82, 3) := by decide +kernel
theorem pd_36 : parseMethodDescriptor "()Ljava/lang/String;" = some ⟨[], some (.object "java/lang/String")⟩ := by decide +kernel
theorem d54_32 : decode k54 32 = .ok (.invokespecial 167, 3) := by decide +kernel
theorem d54_35 : decode k54 35 = .ok (.areturn, 1) := by decide +kernel
abbrev y_54 : MethodName := ⟨"com/example/kwerx/kwerx/cli/CommandLine", "usageError", "(Ljava/lang/String;Ljava/lang/String;)Lcom/example/kwerx/kwerx/InvalidInputException;"⟩
abbrev r_ue : Room := { frames := 10, cells := 14, slots := 3200, locals := 145 }
theorem pn_11 : plainName "com/example/kwerx/kwerx/cli/CommandLine" = true := by first | (simp [plainName, overriddenIn]; done) | decide +kernel
theorem ef_ue (mt : MethodId) (p_ : Addr) (u_ : Addr) : entryFrame mt #[(.ref p_), (.ref u_)] 2 = mkF mt 0 #[.val (.ref p_), .val (.ref u_)] [] := by first | (simp [entryFrame, mkF, argsToLocals, Value.category]; done) | rfl
def Q_ue (Z : State) (p_ : Addr) (u_ : Addr) (bsp : Addr) (ksp : ClassId) (zsp : Int32) (vsp : List Value) (cop : Int32) (np : Nat) (fp : Nat → Int32) (bsu : Addr) (ksu : ClassId) (zsu : Int32) (vsu : List Value) (cou : Int32) (nu : Nat) (fu : Nat → Int32) (h0 : Heap) (n0 : Nat) (v : Option Value) (h : Heap) (L : List Loc) : Prop := ∃ r : Addr, v = some (.ref r) ∧ Fr n0 L ∧ Keep h0 h [] ∧ Exa Z h r "com/example/kwerx/kwerx/InvalidInputException" ∧ ∃ (m : Addr) (F : Nat → Int32), Fld Z h r "java/lang/Throwable" "detailMessage" "Ljava/lang/String;" (.ref m) ∧ Exa Z h m "java/lang/String" ∧ own_M np fp nu fu F ∧ ∃ (t : Addr) (k : ClassId) (z : Int32) (vs : List Value) (cd : Int32), Fld Z h m "java/lang/String" "value" "[B" (.ref t) ∧ Fld Z h m "java/lang/String" "coder" "B" (.int cd) ∧ Arv Z h t k .byte z vs (.int (0 : Int32)) ∧ own_S cd z (np + 10 + nu) F vs
theorem rm_ue (l : Launch) (Z : State) (a0 : Array Value) (hw : ∀ d ∈ tables_1, d.before a0 Z = true) (ws : List Jvm.Cond) (p_ : Addr) (u_ : Addr) (bsp : Addr) (ksp : ClassId) (zsp : Int32) (vsp : List Value) (cop : Int32) (np : Nat) (fp : Nat → Int32) (bsu : Addr) (ksu : ClassId) (zsu : Int32) (vsu : List Value) (cou : Int32) (nu : Nat) (fu : Nat → Int32) (h0 : Heap) (n0 : Nat) (Z0 : n0 ≤ h0.size) (Ep : Exa Z h0 p_ "java/lang/String") (Fvp : Fld Z h0 p_ "java/lang/String" "value" "[B" (.ref bsp)) (Fcp : Fld Z h0 p_ "java/lang/String" "coder" "B" (.int cop)) (Vp : Arv Z h0 bsp ksp .byte zsp vsp (.int (0 : Int32))) (Hp : own_S cop zsp np fp vsp) (Eu : Exa Z h0 u_ "java/lang/String") (Fvu : Fld Z h0 u_ "java/lang/String" "value" "[B" (.ref bsu)) (Fcu : Fld Z h0 u_ "java/lang/String" "coder" "B" (.int cou)) (Vu : Arv Z h0 bsu ksu .byte zsu vsu (.int (0 : Int32))) (Hu : own_S cou zsu nu fu vsu) (hn : np + 10 + nu ≤ 16) (hlt : l.stackTraces = true) (h2r : ∀ d ∈ Jvm.RoadKit.twoRefs, d.before a0 Z = true) (ST : own_St Z) (O : Old Z n0 h0) :
    MetFree l y_54 (head1 (Jvm.Cond.code y_54 k54 2 (some (.object "com/example/kwerx/kwerx/InvalidInputException")) :: ws) r_ue) (fun aa UU => aa = #[(.ref p_), (.ref u_)] ∧ Z.Warmed39 UU.vm ∧ UU.heap = h0 ∧ CHv Z own_EL UU.vm h0 ∧ ∀ x ∈ ([] : List Addr), Safe Z own_EL UU.vm h0 x) (fun _ _ bl s _ => s.vm.MethodsKnown ∧ s.vm.FramesKnown bl) (fun _ UU oo UU' => ∃ vv LL, oo = .returned vv ∧ Q_ue Z p_ u_ bsp ksp zsp vsp cop np fp bsu ksu zsu vsu cou nu fu h0 n0 vv UU'.heap LL ∧ (CHr Z own_EL) UU.vm UU.heap UU'.vm UU'.heap ∧ ReturnedEndW UU oo UU' LL r_ue.cells r_ue.slots) := by
  refine MetFree.of_bodySF (plainFor_of_name pn_11) hisR ?_
  intro p e s mt args below meth cd s₁ Bd hml0 hP hK
  obtain ⟨hA, hZ, hh, hC0, hSf⟩ := hP
  have hx := Bd.exec
  have hby := Bd.bytes
  have hml : cd.maxLocals = 2 := hml0
  have hown : s.vm.findClass "com/example/kwerx/kwerx/cli/CommandLine" = some mt.cls := findClass_of_methodNamed Bd.named
  have hlk : meth.locks = false := BodyLoose.notSynchronized Bd
  have hrt := Bd.returns
  have X0 : Stand p l e r_ue s mt args below meth cd s₁ [] 0 0 := Stand.of_body Bd
  have e0 : s₁.heap = h0 := by rw [← hh, Bd.state]; rfl
  have N0 := Fr.nil n0
  have hC := CHr.refl hC0
  show Win p e below (EndsX (CHr Z own_EL) s (Q_ue Z p_ u_ bsp ksp zsp vsp cop np fp bsu ksu zsu vsu cou nu fu h0 n0) r_ue.cells r_ue.slots) s₁ (entryFrame mt args 2)
  rw [hA, ef_ue]
  obtain ⟨cs, u, S0, hcs, S1, hu, S2, S3, S4⟩ := id ST
  obtain ⟨T698, h698, X698, e698, E698, A698, D698, U698, st698⟩ := newO X0 hx hZ hown (ow hw 30 rfl) (ow hw 31 rfl) (ow hw 32 rfl) e0 (g := (mkF mt 0 #[.val (.ref p_), .val (.ref u_)] [])) rfl (hb hby d54_0) (by decide) (by decide)
  obtain ⟨b698, gq698⟩ : ∃ z, z = h0.size := ⟨_, rfl⟩
  rw [← gq698] at A698 D698 st698 U698
  have g703 : n0 ≤ b698 := own_newle Z0 gq698
  have z704 : h0.size ≤ b698 := own_newle (Keep.refl h0 []).1 gq698
  have ke698 := own_kext E698
  replace X698 : Stand p l e _ s mt args below meth cd T698 _ 1 6 := X698
  have f705_12 := O.keep ke698 all0
  have f705_13 := CHr.trans hC (CHr.keep ke698 all0 hC.1)
  have f705_14 := Ep.keep ke698
  have f705_15 := Fvp.keep ke698 nin0
  have f705_16 := Fcp.keep ke698 nin0
  have f705_17 := Vp.keep ke698 nin0
  have f705_18 := Eu.keep ke698
  have f705_19 := Fvu.keep ke698 nin0
  have f705_20 := Fcu.keep ke698 nin0
  have f705_21 := Vu.keep ke698 nin0
  have Z706 : n0 ≤ h698.size := Nat.le_trans Z0 ke698.1
  have K707 : Keep h0 h698 [] := Keep.trans (Keep.refl h0 []) ke698 all0
  have Un698 : Unt h698 b698 := U698
  have fn698_cause : Fld Z h698 b698 "java/lang/Throwable" "cause" "Ljava/lang/Throwable;" .null := D698 (Or.inl (ow hw 162 rfl)) (ty := (.object "java/lang/Throwable")) (by decide)
  have fn698_stackTrace : Fld Z h698 b698 "java/lang/Throwable" "stackTrace" "[Ljava/lang/StackTraceElement;" .null := D698 (Or.inl (ow hw 165 rfl)) (ty := (.array (.object "java/lang/StackTraceElement"))) (by decide)
  have fn698_suppressedExceptions : Fld Z h698 b698 "java/lang/Throwable" "suppressedExceptions" "Ljava/util/List;" .null := D698 (Or.inl (ow hw 168 rfl)) (ty := (.object "java/util/List")) (by decide)
  have fn698_detailMessage : Fld Z h698 b698 "java/lang/Throwable" "detailMessage" "Ljava/lang/String;" .null := D698 (Or.inl (ow hw 192 rfl)) (ty := (.object "java/lang/String")) (by decide)
  have fn698_backtrace : Fld Z h698 b698 "java/lang/Throwable" "backtrace" "Ljava/lang/Object;" .null := D698 (Or.inl (ow hw 193 rfl)) (ty := (.object "java/lang/Object")) (by decide)
  refine Win.st ?_ st698
  show Win _ _ _ _ T698 (mkF mt 3 #[.val (.ref p_), .val (.ref u_)] [(.ref b698)])
  refine Win.st ?_ (fun tq kq => XS.dup X698.here hx rfl (hb hby d54_3) rfl rfl kq)
  show Win _ _ _ _ T698 (mkF mt 4 #[.val (.ref p_), .val (.ref u_)] [(.ref b698), (.ref b698)])
  obtain ⟨T708, h708, X708, e708, E708, A708, D708, -, st708⟩ := newO X698 hx hZ hown (ow hw 33 rfl) (ow hw 34 rfl) (ow hw 35 rfl) e698 (g := (mkF mt 4 #[.val (.ref p_), .val (.ref u_)] [(.ref b698), (.ref b698)])) rfl (hb hby d54_4) (by decide) (by decide)
  obtain ⟨b708, gq708⟩ : ∃ z, z = h698.size := ⟨_, rfl⟩
  rw [← gq708] at A708 D708 st708
  have ne709 : p_ ≠ b708 := own_new gq708 f705_14.lt
  have ne710 : bsp ≠ b708 := own_new gq708 f705_17.lt
  have ne711 : u_ ≠ b708 := own_new gq708 f705_18.lt
  have ne712 : bsu ≠ b708 := own_new gq708 f705_21.lt
  have ne713 : b698 ≠ b708 := own_new gq708 A698.lt
  have g714 : n0 ≤ b708 := own_newle Z706 gq708
  have z715 : h0.size ≤ b708 := own_newle K707.1 gq708
  have ke708 := own_kext E708
  replace X708 : Stand p l e _ s mt args below meth cd T708 _ 2 10 := X708
  have f716_47 := f705_12.keep ke708 all0
  have f716_48 := CHr.trans f705_13 (CHr.keep ke708 all0 f705_13.1)
  have f716_49 := f705_14.keep ke708
  have f716_50 := f705_15.keep ke708 nin0
  have f716_51 := f705_16.keep ke708 nin0
  have f716_52 := f705_17.keep ke708 nin0
  have f716_53 := f705_18.keep ke708
  have f716_54 := f705_19.keep ke708 nin0
  have f716_55 := f705_20.keep ke708 nin0
  have f716_56 := f705_21.keep ke708 nin0
  have f716_57 := A698.keep ke708
  have f716_58 := Un698.keep ke708 nin0
  have f716_59 := fn698_cause.keep ke708 nin0
  have f716_60 := fn698_stackTrace.keep ke708 nin0
  have f716_61 := fn698_suppressedExceptions.keep ke708 nin0
  have f716_62 := fn698_detailMessage.keep ke708 nin0
  have f716_63 := fn698_backtrace.keep ke708 nin0
  have Z717 : n0 ≤ h708.size := Nat.le_trans Z706 ke708.1
  have K718 : Keep h0 h708 [] := Keep.trans K707 ke708 all0
  have fn708_value : Fld Z h708 b708 "java/lang/AbstractStringBuilder" "value" "[B" .null := D708 (Or.inl (ow hw 48 rfl)) (ty := (.array .byte)) (by decide)
  have fn708_coder : Fld Z h708 b708 "java/lang/AbstractStringBuilder" "coder" "B" (.int (0 : Int32)) := D708 (Or.inl (ow hw 50 rfl)) (ty := .byte) (by decide)
  have fn708_count : Fld Z h708 b708 "java/lang/AbstractStringBuilder" "count" "I" (.int (0 : Int32)) := D708 (Or.inl (ow hw 73 rfl)) (ty := .int) (by decide)
  have fn708_maybeLatin1 : Fld Z h708 b708 "java/lang/AbstractStringBuilder" "maybeLatin1" "Z" (.int (0 : Int32)) := D708 (Or.inl (ow hw 299 rfl)) (ty := .boolean) (by decide)
  refine Win.st ?_ st708
  show Win _ _ _ _ T708 (mkF mt 7 #[.val (.ref p_), .val (.ref u_)] [(.ref b708), (.ref b698), (.ref b698)])
  refine Win.st ?_ (fun tq kq => XS.dup X708.here hx rfl (hb hby d54_7) rfl rfl kq)
  show Win _ _ _ _ T708 (mkF mt 8 #[.val (.ref p_), .val (.ref u_)] [(.ref b708), (.ref b708), (.ref b698), (.ref b698)])
  obtain ⟨v719, _, ⟨T719, L719, k719, n719⟩, -, X719, ⟨Lc719, hQ719, l719, rfl, rfl⟩, st719⟩ := X708.specialBack hx (y := y_31) rfl hown (mvT hZ (ow hw 36 rfl)) (mvT hZ (ow hw 37 rfl)) (mvT hZ (ow hw 38 rfl)) (by decide) (backOf (W := 3) (rm_sbini l Z a0 hw [] b708 own_lp h708 n0 Z717 A708 fn708_value fn708_coder fn708_count fn708_maybeLatin1 g714 ST f716_47) hZ (ow hw 38 rfl) (ow hw 35 rfl) (by decide) (by decide)) (g := (mkF mt 8 #[.val (.ref p_), .val (.ref u_)] [(.ref b708), (.ref b708), (.ref b698), (.ref b698)])) rfl (by rw [hml]; rfl) (Steps.refl _) (a := b708) (argsL := []) (rest := [(.ref b708), (.ref b698), (.ref b698)]) (lenOf pd_24 rfl) rfl (wz rfl) (hb hby d54_8) (fun _ _ => ⟨rfl, e708, (by decide : 2 + 1 ≤ _), (by decide : 10 + 16 ≤ _)⟩)
  replace X719 : Stand p l e _ s mt args below meth cd T719 L719 3 26 := X719
  obtain ⟨h719, e719⟩ : ∃ z, T719.heap = z := ⟨_, rfl⟩
  rw [e719] at hQ719
  obtain ⟨rfl, Nq719, K719, t0, k0_, z0_, v0_, c0_, hor719, gt719, bv719, bc719, bn719, bm719, bV719, bX719, hW719⟩ := hQ719
  have N719 := own_fr (L := L719) l719 N0 Nq719
  have f720_80 := f716_47.keep K719 (allS g714 all0)
  have f720_81 := CHr.trans f716_48 (CHr.keep K719 (allS (Safe.exa hZ.alike A708 (by decide) (by decide)) all0) f716_48.1)
  have f720_82 := f716_49.keep K719
  have f720_83 := f716_50.keep K719 (ninS ne709 nin0)
  have f720_84 := f716_51.keep K719 (ninS ne709 nin0)
  have f720_85 := f716_52.keep K719 (ninS ne710 nin0)
  have f720_86 := f716_53.keep K719
  have f720_87 := f716_54.keep K719 (ninS ne711 nin0)
  have f720_88 := f716_55.keep K719 (ninS ne711 nin0)
  have f720_89 := f716_56.keep K719 (ninS ne712 nin0)
  have f720_90 := f716_57.keep K719
  have f720_91 := f716_58.keep K719 (ninS ne713 nin0)
  have f720_92 := f716_59.keep K719 (ninS ne713 nin0)
  have f720_93 := f716_60.keep K719 (ninS ne713 nin0)
  have f720_94 := f716_61.keep K719 (ninS ne713 nin0)
  have f720_95 := f716_62.keep K719 (ninS ne713 nin0)
  have f720_96 := f716_63.keep K719 (ninS ne713 nin0)
  have f720_97 := A708.keep K719
  have Z721 : n0 ≤ h719.size := Nat.le_trans Z717 K719.1
  have K722 : Keep h0 h719 [] := Keep.trans K718 K719 (allS (Or.inr z715) all0)
  have ne724 : bsp ≠ t0 := Nat.ne_of_lt (Nat.lt_of_lt_of_le f716_52.lt hor719)
  have ne725 : u_ ≠ t0 := Nat.ne_of_lt (Nat.lt_of_lt_of_le f716_53.lt hor719)
  have ne726 : bsu ≠ t0 := Nat.ne_of_lt (Nat.lt_of_lt_of_le f716_56.lt hor719)
  have ne727 : b698 ≠ t0 := Nat.ne_of_lt (Nat.lt_of_lt_of_le f716_57.lt hor719)
  have sz719 : h0.size ≤ t0 := Nat.le_trans K718.1 hor719
  have sf719 := Safe.keep K719 (allS (Safe.exa hZ.alike A708 (by decide) (by decide)) all0) f716_48.1 (Safe.new (x := t0) hor719)
  refine Win.tr ?_ st719
  refine w_aloadN X719 hx hby d54_11 rfl rfl ?_
  show Win _ _ _ _ T719 (mkF mt 12 #[.val (.ref p_), .val (.ref u_)] [(.ref p_), (.ref b708), (.ref b698), (.ref b698)])
  obtain ⟨cq729, kq729, q729a, q729b, q729c⟩ := isOf hZ e719 f720_97
  obtain ⟨v729, _, ⟨T729, L729, k729, n729⟩, -, X729, ⟨Lc729, hQ729, l729, rfl, rfl⟩, st729⟩ := X719.virtualBack hx (y := y_40) (z := y_40) hown (mvT hZ (ow hw 51 rfl)) (mvT hZ (ow hw 52 rfl)) (notFace_of_selects (args := #[]) (mvT hZ (ow hw 54 rfl))) (mvT hZ (ow hw 54 rfl)) (mvT hZ (ow hw 53 rfl)) (by decide) (backOf (W := 2) (rm_sap l Z a0 hw [] b708 p_ t0 k0_ z0_ v0_ c0_ 0 own_lp bsp ksp zsp vsp cop np fp h719 n0 Z721 f720_97 bv719 bc719 bn719 bm719 bV719 bX719 hW719 g714 gt719 f720_82 f720_83 f720_84 f720_85 Hp (by omega) ne724 ST f720_80) hZ (ow hw 55 rfl) (ow hw 35 rfl) (by decide) (by decide)) q729a q729c (g := (mkF mt 12 #[.val (.ref p_), .val (.ref u_)] [(.ref p_), (.ref b708), (.ref b698), (.ref b698)])) rfl (by rw [hml]; rfl) (Steps.refl _) (argsL := [(.ref p_)]) (rest := [(.ref b698), (.ref b698)]) (lenOf pd_35 rfl) rfl (wz rfl) (hb hby d54_12) (fun _ _ => ⟨rfl, e719, (by decide : 3 + 1 ≤ _), (by decide : 26 + 32 ≤ _)⟩)
  replace X729 : Stand p l e _ s mt args below meth cd T729 L729 4 58 := X729
  obtain ⟨h729, e729⟩ : ∃ z, T729.heap = z := ⟨_, rfl⟩
  rw [e729] at hQ729
  obtain ⟨rfl, Nq729, K729, t1, k1_, z1_, v1_, c1_, hor729, gt729, bv729, bc729, bn729, bm729, bV729, bX729, hW729⟩ := hQ729
  have N729 := own_fr (L := L729) l729 N719 Nq729
  have f730_118 := f720_80.keep K729 (allS g714 (allS gt719 all0))
  have f730_119 := CHr.trans f720_81 (CHr.keep K729 (allS (Safe.exa hZ.alike f720_97 (by decide) (by decide)) (allS sf719 all0)) f720_81.1)
  have f730_124 := f720_86.keep K729
  have f730_125 := f720_87.keep K729 (ninS ne711 (ninS ne725 nin0))
  have f730_126 := f720_88.keep K729 (ninS ne711 (ninS ne725 nin0))
  have f730_127 := f720_89.keep K729 (ninS ne712 (ninS ne726 nin0))
  have f730_128 := f720_90.keep K729
  have f730_129 := f720_91.keep K729 (ninS ne713 (ninS ne727 nin0))
  have f730_130 := f720_92.keep K729 (ninS ne713 (ninS ne727 nin0))
  have f730_131 := f720_93.keep K729 (ninS ne713 (ninS ne727 nin0))
  have f730_132 := f720_94.keep K729 (ninS ne713 (ninS ne727 nin0))
  have f730_133 := f720_95.keep K729 (ninS ne713 (ninS ne727 nin0))
  have f730_134 := f720_96.keep K729 (ninS ne713 (ninS ne727 nin0))
  have f730_135 := f720_97.keep K729
  have Z731 : n0 ≤ h729.size := Nat.le_trans Z721 K729.1
  have K732 : Keep h0 h729 [] := Keep.trans K722 K729 (allS (Or.inr z715) (allS (Or.inr sz719) all0))
  have ne735 : u_ ≠ t1 := own_orne hor729 f720_86.lt ne725
  have ne736 : bsu ≠ t1 := own_orne hor729 f720_89.lt ne726
  have ne737 : b698 ≠ t1 := own_orne hor729 f720_90.lt ne727
  have sz729 : h0.size ≤ t1 := own_orge hor729 sz719 K722.1
  have sf729 := own_orSafe hor729 K729 (allS (Safe.exa hZ.alike f720_97 (by decide) (by decide)) (allS sf719 all0)) f720_81.1 sf719
  refine Win.tr ?_ st729
  show Win _ _ _ _ T729 (mkF mt 15 #[.val (.ref p_), .val (.ref u_)] [(.ref b708), (.ref b698), (.ref b698)])
  obtain ⟨l1_, T739, h739, kk739, lb1, lk1, X739, e739, E739, hS739, hk739, hZ739, hown739, LE739, LC739, LV739, LA739, -, -, hR739, hL739, hNe739, st739⟩ := ldcCH (s := s) (vm0 := s.vm) X729 hx hZ hown (ow hw 99 rfl) (own_strw hw) e729 (State.WarmedH.since (State.WarmedH.refl s) 0) (Nat.zero_le _) (own_EW hw) (List.mem_of_getElem? (i := 0) rfl) f730_119.1 (vs := [(.int (32 : Int32)), (.int (40 : Int32)), (.int (117 : Int32)), (.int (115 : Int32)), (.int (97 : Int32)), (.int (103 : Int32)), (.int (101 : Int32)), (.int (58 : Int32)), (.int (32 : Int32))]) (z := (9 : Int32)) ⟨by decide +kernel, rfl⟩ (by decide) rfl (g := (mkF mt 15 #[.val (.ref p_), .val (.ref u_)] [(.ref b708), (.ref b698), (.ref b698)])) rfl (hb hby d54_15) (n := 36) (by decide +kernel) (by decide) (by decide) (by decide)
  replace X739 : Stand p l e _ (s.setVm T739.vm) mt args below meth cd T739 _ 6 98 := X739
  have ke739 := own_kext E739
  have f740_152 := f730_118.keep ke739 all0
  have f740_157 := f730_124.keep ke739
  have f740_158 := f730_125.keep ke739 nin0
  have f740_159 := f730_126.keep ke739 nin0
  have f740_160 := f730_127.keep ke739 nin0
  have f740_161 := f730_128.keep ke739
  have f740_162 := f730_129.keep ke739 nin0
  have f740_163 := f730_130.keep ke739 nin0
  have f740_164 := f730_131.keep ke739 nin0
  have f740_165 := f730_132.keep ke739 nin0
  have f740_166 := f730_133.keep ke739 nin0
  have f740_167 := f730_134.keep ke739 nin0
  have f740_168 := f730_135.keep ke739
  have f740_169 := bv729.keep ke739 nin0
  have f740_170 := bc729.keep ke739 nin0
  have f740_171 := bn729.keep ke739 nin0
  have f740_172 := bm729.keep ke739 nin0
  have f740_173 := bV729.keep ke739 nin0
  have f740_174 := bX729.keep ke739
  have Z741 : n0 ≤ h739.size := Nat.le_trans Z731 ke739.1
  have K742 : Keep h0 h739 [] := Keep.trans K732 ke739 all0
  have sy739_t1 := CHr.safe hR739 bV729.lt sf729
  have hC739 := CHr.trans f730_119 hR739
  have nl739_t1 := hNe739 t1 sy739_t1
  refine Win.st ?_ st739
  show Win _ _ _ _ T739 (mkF mt 17 #[.val (.ref p_), .val (.ref u_)] [(.ref l1_), (.ref b708), (.ref b698), (.ref b698)])
  obtain ⟨cq743, kq743, q743a, q743b, q743c⟩ := isOf hZ739 e739 f740_168
  obtain ⟨v743, _, ⟨T743, L743, k743, n743⟩, -, X743, ⟨Lc743, hQ743, l743, rfl, rfl⟩, st743⟩ := X739.virtualBack hx (y := y_40) (z := y_40) hown739 (mvT hZ739 (ow hw 51 rfl)) (mvT hZ739 (ow hw 52 rfl)) (notFace_of_selects (args := #[]) (mvT hZ739 (ow hw 54 rfl))) (mvT hZ739 (ow hw 54 rfl)) (mvT hZ739 (ow hw 53 rfl)) (by decide) (backOf (W := 2) (rm_sap l Z a0 hw [] b708 l1_ t1 k1_ z1_ v1_ c1_ (0 + np) (own_cat 0 own_lp fp) lb1 lk1 (9 : Int32) [(.int (32 : Int32)), (.int (40 : Int32)), (.int (117 : Int32)), (.int (115 : Int32)), (.int (97 : Int32)), (.int (103 : Int32)), (.int (101 : Int32)), (.int (58 : Int32)), (.int (32 : Int32))] (0 : Int32) 9 own_lu h739 n0 Z741 f740_168 f740_169 f740_170 f740_171 f740_172 f740_173 f740_174 hW729 g714 gt729 LE739 LV739 LC739 LA739 own_S_lu (by omega) (Ne.symm nl739_t1.2) ST f740_152) hZ739 (ow hw 55 rfl) (ow hw 35 rfl) (by decide) (by decide)) q743a q743c (g := (mkF mt 17 #[.val (.ref p_), .val (.ref u_)] [(.ref l1_), (.ref b708), (.ref b698), (.ref b698)])) rfl (by rw [hml]; rfl) (Steps.refl _) (argsL := [(.ref l1_)]) (rest := [(.ref b698), (.ref b698)]) (lenOf pd_35 rfl) rfl (wz rfl) (hb hby d54_17) (fun _ _ => ⟨rfl, e739, (by decide : 6 + 1 ≤ _), (by decide : 98 + 32 ≤ _)⟩)
  replace X743 : Stand p l e _ (s.setVm T739.vm) mt args below meth cd T743 L743 7 130 := X743
  obtain ⟨h743, e743⟩ : ∃ z, T743.heap = z := ⟨_, rfl⟩
  rw [e743] at hQ743
  obtain ⟨rfl, Nq743, K743, t2, k2_, z2_, v2_, c2_, hor743, gt743, bv743, bc743, bn743, bm743, bV743, bX743, hW743⟩ := hQ743
  have N743 := own_fr (L := L743) l743 N729 Nq743
  have f744_190 := f740_152.keep K743 (allS g714 (allS gt729 all0))
  have f744_195 := f740_157.keep K743
  have f744_196 := f740_158.keep K743 (ninS ne711 (ninS ne735 nin0))
  have f744_197 := f740_159.keep K743 (ninS ne711 (ninS ne735 nin0))
  have f744_198 := f740_160.keep K743 (ninS ne712 (ninS ne736 nin0))
  have f744_199 := f740_161.keep K743
  have f744_200 := f740_162.keep K743 (ninS ne713 (ninS ne737 nin0))
  have f744_201 := f740_163.keep K743 (ninS ne713 (ninS ne737 nin0))
  have f744_202 := f740_164.keep K743 (ninS ne713 (ninS ne737 nin0))
  have f744_203 := f740_165.keep K743 (ninS ne713 (ninS ne737 nin0))
  have f744_204 := f740_166.keep K743 (ninS ne713 (ninS ne737 nin0))
  have f744_205 := f740_167.keep K743 (ninS ne713 (ninS ne737 nin0))
  have f744_206 := f740_168.keep K743
  have f744_208 := CHr.trans hC739 (CHr.keep K743 (allS (Safe.exa hZ739.alike f740_168 (by decide) (by decide)) (allS sy739_t1 all0)) hC739.1)
  have Z745 : n0 ≤ h743.size := Nat.le_trans Z741 K743.1
  have hk746 := Nat.le_trans hk739 K743.1
  have K747 : Keep h0 h743 [] := Keep.trans K742 K743 (allS (Or.inr z715) (allS (Or.inr sz729) all0))
  have ne751 : bsu ≠ t2 := own_orne hor743 f740_160.lt ne736
  have ne752 : b698 ≠ t2 := own_orne hor743 f740_161.lt ne737
  have sz743 : h0.size ≤ t2 := own_orge hor743 sz729 K742.1
  have sf743 := own_orSafe hor743 K743 (allS (Safe.exa hZ739.alike f740_168 (by decide) (by decide)) (allS sy739_t1 all0)) hC739.1 sy739_t1
  refine Win.tr ?_ st743
  refine w_aloadN X743 hx hby d54_20 rfl rfl ?_
  show Win _ _ _ _ T743 (mkF mt 21 #[.val (.ref p_), .val (.ref u_)] [(.ref u_), (.ref b708), (.ref b698), (.ref b698)])
  obtain ⟨cq756, kq756, q756a, q756b, q756c⟩ := isOf hZ739 e743 f744_206
  obtain ⟨v756, _, ⟨T756, L756, k756, n756⟩, -, X756, ⟨Lc756, hQ756, l756, rfl, rfl⟩, st756⟩ := X743.virtualBack hx (y := y_40) (z := y_40) hown739 (mvT hZ739 (ow hw 51 rfl)) (mvT hZ739 (ow hw 52 rfl)) (notFace_of_selects (args := #[]) (mvT hZ739 (ow hw 54 rfl))) (mvT hZ739 (ow hw 54 rfl)) (mvT hZ739 (ow hw 53 rfl)) (by decide) (backOf (W := 2) (rm_sap l Z a0 hw [] b708 u_ t2 k2_ z2_ v2_ c2_ ((0 + np) + 9) (own_cat (0 + np) (own_cat 0 own_lp fp) own_lu) bsu ksu zsu vsu cou nu fu h743 n0 Z745 f744_206 bv743 bc743 bn743 bm743 bV743 bX743 hW743 g714 gt743 f744_195 f744_196 f744_197 f744_198 Hu (by omega) ne751 ST f744_190) hZ739 (ow hw 55 rfl) (ow hw 35 rfl) (by decide) (by decide)) q756a q756c (g := (mkF mt 21 #[.val (.ref p_), .val (.ref u_)] [(.ref u_), (.ref b708), (.ref b698), (.ref b698)])) rfl (by rw [hml]; rfl) (Steps.refl _) (argsL := [(.ref u_)]) (rest := [(.ref b698), (.ref b698)]) (lenOf pd_35 rfl) rfl (wz rfl) (hb hby d54_21) (fun _ _ => ⟨rfl, e743, (by decide : 7 + 1 ≤ _), (by decide : 130 + 32 ≤ _)⟩)
  replace X756 : Stand p l e _ (s.setVm T739.vm) mt args below meth cd T756 L756 8 162 := X756
  obtain ⟨h756, e756⟩ : ∃ z, T756.heap = z := ⟨_, rfl⟩
  rw [e756] at hQ756
  obtain ⟨rfl, Nq756, K756, t3, k3_, z3_, v3_, c3_, hor756, gt756, bv756, bc756, bn756, bm756, bV756, bX756, hW756⟩ := hQ756
  have N756 := own_fr (L := L756) l756 N743 Nq756
  have f757_232 := f744_190.keep K756 (allS g714 (allS gt743 all0))
  have f757_241 := f744_199.keep K756
  have f757_242 := f744_200.keep K756 (ninS ne713 (ninS ne752 nin0))
  have f757_243 := f744_201.keep K756 (ninS ne713 (ninS ne752 nin0))
  have f757_244 := f744_202.keep K756 (ninS ne713 (ninS ne752 nin0))
  have f757_245 := f744_203.keep K756 (ninS ne713 (ninS ne752 nin0))
  have f757_246 := f744_204.keep K756 (ninS ne713 (ninS ne752 nin0))
  have f757_247 := f744_205.keep K756 (ninS ne713 (ninS ne752 nin0))
  have f757_248 := f744_206.keep K756
  have f757_249 := CHr.trans f744_208 (CHr.keep K756 (allS (Safe.exa hZ739.alike f744_206 (by decide) (by decide)) (allS sf743 all0)) f744_208.1)
  have Z758 : n0 ≤ h756.size := Nat.le_trans Z745 K756.1
  have hk759 := Nat.le_trans hk746 K756.1
  have K760 : Keep h0 h756 [] := Keep.trans K747 K756 (allS (Or.inr z715) (allS (Or.inr sz743) all0))
  have ne765 : b698 ≠ t3 := own_orne hor756 f744_199.lt ne752
  have sz756 : h0.size ≤ t3 := own_orge hor756 sz743 K747.1
  have sf756 := own_orSafe hor756 K756 (allS (Safe.exa hZ739.alike f744_206 (by decide) (by decide)) (allS sf743 all0)) f744_208.1 sf743
  refine Win.tr ?_ st756
  show Win _ _ _ _ T756 (mkF mt 24 #[.val (.ref p_), .val (.ref u_)] [(.ref b708), (.ref b698), (.ref b698)])
  obtain ⟨l2_, T767, h767, kk767, lb2, lk2, X767, e767, E767, hS767, hk767, hZ767, hown767, LE767, LC767, LV767, LA767, -, -, hR767, hL767, hNe767, st767⟩ := ldcCH (s := s) (vm0 := T739.vm) X756 hx hZ739 hown739 (ow hw 100 rfl) (own_strw hw) e756 hS739 hk759 (own_EW hw) (List.mem_of_getElem? (i := 1) rfl) f757_249.1 (vs := [(.int (41 : Int32))]) (z := (1 : Int32)) ⟨by decide +kernel, rfl⟩ (by decide) rfl (g := (mkF mt 24 #[.val (.ref p_), .val (.ref u_)] [(.ref b708), (.ref b698), (.ref b698)])) rfl (hb hby d54_24) (n := 4) (by decide +kernel) (by decide) (by decide) (by decide)
  replace X767 : Stand p l e _ (s.setVm T767.vm) mt args below meth cd T767 _ 10 170 := X767
  have ke767 := own_kext E767
  have f768_267 := f757_232.keep ke767 all0
  have f768_276 := f757_241.keep ke767
  have f768_277 := f757_242.keep ke767 nin0
  have f768_278 := f757_243.keep ke767 nin0
  have f768_279 := f757_244.keep ke767 nin0
  have f768_280 := f757_245.keep ke767 nin0
  have f768_281 := f757_246.keep ke767 nin0
  have f768_282 := f757_247.keep ke767 nin0
  have f768_283 := f757_248.keep ke767
  have f768_284 := bv756.keep ke767 nin0
  have f768_285 := bc756.keep ke767 nin0
  have f768_286 := bn756.keep ke767 nin0
  have f768_287 := bm756.keep ke767 nin0
  have f768_288 := bV756.keep ke767 nin0
  have f768_289 := bX756.keep ke767
  have Z769 : n0 ≤ h767.size := Nat.le_trans Z758 ke767.1
  have K770 : Keep h0 h767 [] := Keep.trans K760 ke767 all0
  have sy767_t3 := CHr.safe hR767 bV756.lt sf756
  have hC767 := CHr.trans f757_249 hR767
  have nl767_t3 := hNe767 t3 sy767_t3
  refine Win.st ?_ st767
  show Win _ _ _ _ T767 (mkF mt 26 #[.val (.ref p_), .val (.ref u_)] [(.ref l2_), (.ref b708), (.ref b698), (.ref b698)])
  obtain ⟨cq771, kq771, q771a, q771b, q771c⟩ := isOf hZ767 e767 f768_283
  obtain ⟨v771, _, ⟨T771, L771, k771, n771⟩, -, X771, ⟨Lc771, hQ771, l771, rfl, rfl⟩, st771⟩ := X767.virtualBack hx (y := y_40) (z := y_40) hown767 (mvT hZ767 (ow hw 51 rfl)) (mvT hZ767 (ow hw 52 rfl)) (notFace_of_selects (args := #[]) (mvT hZ767 (ow hw 54 rfl))) (mvT hZ767 (ow hw 54 rfl)) (mvT hZ767 (ow hw 53 rfl)) (by decide) (backOf (W := 2) (rm_sap l Z a0 hw [] b708 l2_ t3 k3_ z3_ v3_ c3_ (((0 + np) + 9) + nu) (own_cat ((0 + np) + 9) (own_cat (0 + np) (own_cat 0 own_lp fp) own_lu) fu) lb2 lk2 (1 : Int32) [(.int (41 : Int32))] (0 : Int32) 1 own_lp h767 n0 Z769 f768_283 f768_284 f768_285 f768_286 f768_287 f768_288 f768_289 hW756 g714 gt756 LE767 LV767 LC767 LA767 own_S_lp (by omega) (Ne.symm nl767_t3.2) ST f768_267) hZ767 (ow hw 55 rfl) (ow hw 35 rfl) (by decide) (by decide)) q771a q771c (g := (mkF mt 26 #[.val (.ref p_), .val (.ref u_)] [(.ref l2_), (.ref b708), (.ref b698), (.ref b698)])) rfl (by rw [hml]; rfl) (Steps.refl _) (argsL := [(.ref l2_)]) (rest := [(.ref b698), (.ref b698)]) (lenOf pd_35 rfl) rfl (wz rfl) (hb hby d54_26) (fun _ _ => ⟨rfl, e767, (by decide : 10 + 1 ≤ _), (by decide : 170 + 32 ≤ _)⟩)
  replace X771 : Stand p l e _ (s.setVm T767.vm) mt args below meth cd T771 L771 11 202 := X771
  obtain ⟨h771, e771⟩ : ∃ z, T771.heap = z := ⟨_, rfl⟩
  rw [e771] at hQ771
  obtain ⟨rfl, Nq771, K771, t4, k4_, z4_, v4_, c4_, hor771, gt771, bv771, bc771, bn771, bm771, bV771, bX771, hW771⟩ := hQ771
  have N771 := own_fr (L := L771) l771 N756 Nq771
  have f772_305 := f768_267.keep K771 (allS g714 (allS gt756 all0))
  have f772_314 := f768_276.keep K771
  have f772_315 := f768_277.keep K771 (ninS ne713 (ninS ne765 nin0))
  have f772_316 := f768_278.keep K771 (ninS ne713 (ninS ne765 nin0))
  have f772_317 := f768_279.keep K771 (ninS ne713 (ninS ne765 nin0))
  have f772_318 := f768_280.keep K771 (ninS ne713 (ninS ne765 nin0))
  have f772_319 := f768_281.keep K771 (ninS ne713 (ninS ne765 nin0))
  have f772_320 := f768_282.keep K771 (ninS ne713 (ninS ne765 nin0))
  have f772_321 := f768_283.keep K771
  have f772_323 := CHr.trans hC767 (CHr.keep K771 (allS (Safe.exa hZ767.alike f768_283 (by decide) (by decide)) (allS sy767_t3 all0)) hC767.1)
  have Z773 : n0 ≤ h771.size := Nat.le_trans Z769 K771.1
  have hk774 := Nat.le_trans hk767 K771.1
  have K775 : Keep h0 h771 [] := Keep.trans K770 K771 (allS (Or.inr z715) (allS (Or.inr sz756) all0))
  refine Win.tr ?_ st771
  show Win _ _ _ _ T771 (mkF mt 29 #[.val (.ref p_), .val (.ref u_)] [(.ref b708), (.ref b698), (.ref b698)])
  obtain ⟨cq784, kq784, q784a, q784b, q784c⟩ := isOf hZ767 e771 f772_321
  obtain ⟨v784, _, ⟨T784, L784, k784, n784⟩, -, X784, ⟨Lc784, hQ784, l784, rfl, rfl⟩, st784⟩ := X771.virtualBack hx (y := y_50) (z := y_50) hown767 (mvT hZ767 (ow hw 101 rfl)) (mvT hZ767 (ow hw 102 rfl)) (notFace_of_selects (args := #[]) (mvT hZ767 (ow hw 104 rfl))) (mvT hZ767 (ow hw 104 rfl)) (mvT hZ767 (ow hw 103 rfl)) (by decide) (backOf (W := 2) (rm_tos l Z a0 hw [] b708 t4 k4_ z4_ v4_ c4_ ((((0 + np) + 9) + nu) + 1) (own_cat (((0 + np) + 9) + nu) (own_cat ((0 + np) + 9) (own_cat (0 + np) (own_cat 0 own_lp fp) own_lu) fu) own_lp) h771 n0 Z773 f772_321 bv771 bc771 bn771 bm771 bV771 bX771 hW771 ST f772_305) hZ767 (ow hw 105 rfl) (ow hw 35 rfl) (by decide) (by decide)) q784a q784c (g := (mkF mt 29 #[.val (.ref p_), .val (.ref u_)] [(.ref b708), (.ref b698), (.ref b698)])) rfl (by rw [hml]; rfl) (Steps.refl _) (argsL := []) (rest := [(.ref b698), (.ref b698)]) (lenOf pd_36 rfl) rfl (wz rfl) (hb hby d54_29) (fun _ _ => ⟨rfl, e771, (by decide : 11 + 2 ≤ _), (by decide : 202 + 36 ≤ _)⟩)
  replace X784 : Stand p l e _ (s.setVm T767.vm) mt args below meth cd T784 L784 13 238 := X784
  obtain ⟨h784, e784⟩ : ∃ z, T784.heap = z := ⟨_, rfl⟩
  rw [e784] at hQ784
  obtain ⟨mm, rfl, Nq784, K784, E784, tm, km, zm, vm, cm, fv784, fc784, V784, Hm784⟩ := hQ784
  have N784 := own_fr (L := L784) l784 N771 Nq784
  have f785_346 := f772_305.keep K784 all0
  have f785_355 := f772_314.keep K784
  have f785_356 := f772_315.keep K784 nin0
  have f785_357 := f772_316.keep K784 nin0
  have f785_358 := f772_317.keep K784 nin0
  have f785_359 := f772_318.keep K784 nin0
  have f785_360 := f772_319.keep K784 nin0
  have f785_361 := f772_320.keep K784 nin0
  have f785_363 := CHr.trans f772_323 (CHr.keep K784 all0 f772_323.1)
  have Z786 : n0 ≤ h784.size := Nat.le_trans Z773 K784.1
  have hk787 := Nat.le_trans hk774 K784.1
  have K788 : Keep h0 h784 [] := Keep.trans K775 K784 all0
  have nme : mm ≠ b698 := own_exne E784 f785_355 (by decide)
  have net : b698 ≠ tm := Exa.neArv f785_355 V784 (ow hw 31 rfl)
  refine Win.tr ?_ st784
  show Win _ _ _ _ T784 (mkF mt 32 #[.val (.ref p_), .val (.ref u_)] [(.ref mm), (.ref b698), (.ref b698)])
  obtain ⟨v789, _, ⟨T789, L789, k789, n789⟩, -, X789, ⟨Lc789, hQ789, l789, rfl, rfl⟩, st789⟩ := X784.specialBack hx (y := y_53) rfl hown767 (mvT hZ767 (ow hw 146 rfl)) (mvT hZ767 (ow hw 147 rfl)) (mvT hZ767 (ow hw 148 rfl)) (by decide) (backOfKL (W := 1) (rm_iini l Z a0 hw [] b698 mm h784 n0 Z786 f785_355 f785_356 f785_357 f785_358 f785_359 f785_361 f785_360 g703 hlt h2r f785_346) hZ767 (ow hw 148 rfl) (ow hw 32 rfl) (by decide) (by decide) (Vm.MethodsKnown.alikeC hS767.1.alike hK.1) (Vm.FramesKnown.alikeC hS767.1.alike hK.2)) (g := (mkF mt 32 #[.val (.ref p_), .val (.ref u_)] [(.ref mm), (.ref b698), (.ref b698)])) rfl (by rw [hml]; rfl) (Steps.refl _) (a := b698) (argsL := [(.ref mm)]) (rest := [(.ref b698)]) (lenOf pd_25 rfl) rfl (wz rfl) (hb hby d54_32) (fun _ _ => ⟨rfl, e784, (by decide : 13 + 1 ≤ _), (by decide : 238 + 2752 ≤ _)⟩)
  replace X789 : Stand p l e _ (s.setVm T767.vm) mt args below meth cd T789 L789 14 2990 := X789
  obtain ⟨h789, e789⟩ : ∃ z, T789.heap = z := ⟨_, rfl⟩
  rw [e789] at hQ789
  obtain ⟨rfl, Nq789, K789, Fm789⟩ := hQ789
  have N789 := own_fr (L := L789) l789 N784 Nq789
  have f790_387 := f785_355.keep K789
  have f790_389 := CHr.trans f785_363 (CHr.keep K789 (allS (Safe.exa hZ767.alike f785_355 (by decide) (by decide)) all0) f785_363.1)
  have f790_391 := E784.keep K789
  have f790_392 := fv784.keep K789 (ninS nme nin0)
  have f790_393 := fc784.keep K789 (ninS nme nin0)
  have f790_394 := V784.keep K789 (ninS (Ne.symm net) nin0)
  have hk792 := Nat.le_trans hk787 K789.1
  have K793 : Keep h0 h789 [] := Keep.trans K788 K789 (allS (Or.inr z704) all0)
  refine Win.tr ?_ st789
  show Win _ _ _ _ T789 (mkF mt 35 #[.val (.ref p_), .val (.ref u_)] [(.ref b698)])
  exact Win.retRX (s := s) (vm₁ := T767.vm) X789 hS767 hk792 hx hlk e789 hrt rfl rfl rfl (hb hby d54_35) (by decide) (by decide) (by rw [hh]; exact f790_389.trans (CHv.at (s := s) (vm0 := T767.vm) X789 hZ767 (own_EW hw) f790_389.1)) ⟨_, rfl, N789, K793, f790_387, mm, _, Fm789, f790_391, own_M_of np nu own_lp fp fu, tm, km, zm, vm, cm, f790_392, f790_393, f790_394, (show 0 + np + 9 + nu + 1 = np + 10 + nu by omega) ▸ Hm784⟩
abbrev k55 : ByteArray := jdk_78_method_6_code
theorem d55_0 : decode k55 0 = .ok (.aload_n 0, 1) := by decide +kernel
theorem d55_1 : decode k55 1 = .ok (.getfield 31, 3) := by decide +kernel
theorem d55_4 : decode k55 4 = .ok (.areturn, 1) := by decide +kernel
abbrev y_55 : MethodName := ⟨"java/lang/Throwable", "getMessage", "()Ljava/lang/String;"⟩
abbrev r_gm : Room := { frames := 0, cells := 0, slots := 0, locals := 0 }
theorem ef_gm (mt : MethodId) (a : Addr) : entryFrame mt #[(.ref a)] 1 = mkF mt 0 #[.val (.ref a)] [] := by first | (simp [entryFrame, mkF, argsToLocals, Value.category]; done) | rfl
def Q_gm (Z : State) (a : Addr) (m_ : Addr) (h0 : Heap) (n0 : Nat) (v : Option Value) (h : Heap) (L : List Loc) : Prop := v = some (.ref m_) ∧ Fr n0 L ∧ h = h0
theorem rm_gm (l : Launch) (Z : State) (a0 : Array Value) (hw : ∀ d ∈ tables_1, d.before a0 Z = true) (ws : List Jvm.Cond) (a : Addr) (m_ : Addr) (h0 : Heap) (n0 : Nat) (Z0 : n0 ≤ h0.size) (Fm : Fld Z h0 a "java/lang/Throwable" "detailMessage" "Ljava/lang/String;" (.ref m_)) :
    Met l y_55 k55 1 (some (.object "java/lang/String")) ws r_gm #[(.ref a)] Z h0 (Q_gm Z a m_ h0 n0) := by
  refine MetFree.of_bodySF (plainFor_of_name pn_8) hisR ?_
  intro p e s mt args below meth cd s₁ Bd hml0 hP hK
  obtain ⟨hA, hZ, hh⟩ := hP
  have hx := Bd.exec
  have hby := Bd.bytes
  have hml : cd.maxLocals = 1 := hml0
  have hown : s.vm.findClass "java/lang/Throwable" = some mt.cls := findClass_of_methodNamed Bd.named
  have hlk : meth.locks = false := BodyLoose.notSynchronized Bd
  have hrt := Bd.returns
  have X0 : Stand p l e r_gm s mt args below meth cd s₁ [] 0 0 := Stand.of_body Bd
  have e0 : s₁.heap = h0 := by rw [← hh, Bd.state]; rfl
  have N0 := Fr.nil n0
  show Win p e below (Ends s (Q_gm Z a m_ h0 n0) r_gm.cells r_gm.slots) s₁ (entryFrame mt args 1)
  rw [hA, ef_gm]
  refine w_aloadN X0 hx hby d55_0 rfl rfl ?_
  obtain ⟨T794, X794, e794, st794⟩ := getF X0 hx hZ hown (host := "") (Or.inl (ow hw 196 rfl)) Via.refl e0 Fm (g := (mkF mt 1 #[.val (.ref a)] [(.ref a)])) rfl rfl (hb hby d55_1)
  refine Win.st ?_ st794
  show Win _ _ _ _ T794 (mkF mt 4 #[.val (.ref a)] [(.ref m_)])
  exact Win.ret X794 hx hlk e794 hrt rfl (Or.inr (Or.inr (Or.inr (Or.inr ⟨rfl, rfl, rfl⟩)))) (hb hby d55_4) (by decide) (by decide) ⟨rfl, N0, rfl⟩
def own_LitR (Z : State) (_ : Vm) (_ : Heap) (vm' : Vm) (h' : Heap) : Prop := ∃ (li lb : Addr) (lk : ClassId), Lit (Z.setVm vm') "com/example/kwerx/kwerx/cli/CommandLineUsageErrorPinLaw" 20 li ∧ Exa Z h' li "java/lang/String" ∧ Fld Z h' li "java/lang/String" "value" "[B" (.ref lb) ∧ Fld Z h' li "java/lang/String" "coder" "B" (.int (0 : Int32)) ∧ Arv Z h' lb lk .byte (9 : Int32) [(.int (32 : Int32)), (.int (40 : Int32)), (.int (117 : Int32)), (.int (115 : Int32)), (.int (97 : Int32)), (.int (103 : Int32)), (.int (101 : Int32)), (.int (58 : Int32)), (.int (32 : Int32))] (.int (0 : Int32))
abbrev k56 : ByteArray := method_3_code
theorem d56_0 : decode k56 0 = .ok (.iload_n 3, 1) := by decide +kernel
theorem d56_1 : decode k56 1 = .ok (.aload_n 0, 1) := by decide +kernel
theorem d56_2 : decode k56 2 = .ok (.invokevirtual 16, 3) := by decide +kernel
theorem d56_5 : decode k56 5 = .ok (.if_icmp .lt 5, 3) := by decide +kernel
theorem d56_10 : decode k56 10 = .ok (.ldc 20, 2) := by decide +kernel
theorem d56_12 : decode k56 12 = .ok (.astore 4, 2) := by decide +kernel
theorem d56_14 : decode k56 14 = .ok (.aload_n 1, 1) := by decide +kernel
theorem d56_15 : decode k56 15 = .ok (.invokevirtual 16, 3) := by decide +kernel
theorem d56_18 : decode k56 18 = .ok (.istore 5, 2) := by decide +kernel
theorem d56_20 : decode k56 20 = .ok (.iload_n 3, 1) := by decide +kernel
theorem d56_21 : decode k56 21 = .ok (.iload 5, 2) := by decide +kernel
theorem d56_23 : decode k56 23 = .ok (.if_icmp .ge 13, 3) := by decide +kernel
theorem d56_26 : decode k56 26 = .ok (.aload_n 1, 1) := by decide +kernel
theorem d56_27 : decode k56 27 = .ok (.iload_n 3, 1) := by decide +kernel
theorem d56_28 : decode k56 28 = .ok (.invokevirtual 22, 3) := by decide +kernel
theorem pd_37 : parseMethodDescriptor "(I)C" = some ⟨[.int], some .char⟩ := by decide +kernel
theorem d56_31 : decode k56 31 = .ok (.istore 6, 2) := by decide +kernel
theorem d56_33 : decode k56 33 = .ok (.goto 60, 3) := by decide +kernel
theorem d56_93 : decode k56 93 = .ok (.aload_n 0, 1) := by decide +kernel
theorem d56_94 : decode k56 94 = .ok (.iload_n 3, 1) := by decide +kernel
theorem d56_95 : decode k56 95 = .ok (.invokevirtual 22, 3) := by decide +kernel
theorem d56_98 : decode k56 98 = .ok (.iload 6, 2) := by decide +kernel
theorem d56_100 : decode k56 100 = .ok (.if_icmp .ne 7, 3) := by decide +kernel
theorem d56_103 : decode k56 103 = .ok (.iconst 1, 1) := by decide +kernel
theorem d56_104 : decode k56 104 = .ok (.goto 4, 3) := by decide +kernel
theorem d56_108 : decode k56 108 = .ok (.ireturn, 1) := by decide +kernel
theorem d56_36 : decode k56 36 = .ok (.iload_n 3, 1) := by decide +kernel
theorem d56_37 : decode k56 37 = .ok (.iload 5, 2) := by decide +kernel
theorem d56_39 : decode k56 39 = .ok (.bipush 9, 2) := by decide +kernel
theorem d56_41 : decode k56 41 = .ok (.iadd, 1) := by decide +kernel
theorem d56_42 : decode k56 42 = .ok (.if_icmp .ge 17, 3) := by decide +kernel
theorem d56_45 : decode k56 45 = .ok (.aload 4, 2) := by decide +kernel
theorem d56_47 : decode k56 47 = .ok (.iload_n 3, 1) := by decide +kernel
theorem d56_48 : decode k56 48 = .ok (.iload 5, 2) := by decide +kernel
theorem d56_50 : decode k56 50 = .ok (.isub, 1) := by decide +kernel
theorem d56_51 : decode k56 51 = .ok (.invokevirtual 22, 3) := by decide +kernel
theorem d56_54 : decode k56 54 = .ok (.istore 6, 2) := by decide +kernel
theorem d56_56 : decode k56 56 = .ok (.goto 37, 3) := by decide +kernel
theorem d56_59 : decode k56 59 = .ok (.iload_n 3, 1) := by decide +kernel
theorem d56_60 : decode k56 60 = .ok (.iload 5, 2) := by decide +kernel
theorem d56_62 : decode k56 62 = .ok (.bipush 9, 2) := by decide +kernel
theorem d56_64 : decode k56 64 = .ok (.iadd, 1) := by decide +kernel
theorem d56_65 : decode k56 65 = .ok (.aload_n 2, 1) := by decide +kernel
theorem d56_66 : decode k56 66 = .ok (.invokevirtual 16, 3) := by decide +kernel
theorem d56_69 : decode k56 69 = .ok (.iadd, 1) := by decide +kernel
theorem d56_70 : decode k56 70 = .ok (.if_icmp .ge 19, 3) := by decide +kernel
theorem d56_73 : decode k56 73 = .ok (.aload_n 2, 1) := by decide +kernel
theorem d56_74 : decode k56 74 = .ok (.iload_n 3, 1) := by decide +kernel
theorem d56_75 : decode k56 75 = .ok (.iload 5, 2) := by decide +kernel
theorem d56_77 : decode k56 77 = .ok (.isub, 1) := by decide +kernel
theorem d56_78 : decode k56 78 = .ok (.bipush 9, 2) := by decide +kernel
theorem d56_80 : decode k56 80 = .ok (.isub, 1) := by decide +kernel
theorem d56_81 : decode k56 81 = .ok (.invokevirtual 22, 3) := by decide +kernel
theorem d56_84 : decode k56 84 = .ok (.istore 6, 2) := by decide +kernel
theorem d56_86 : decode k56 86 = .ok (.goto 7, 3) := by decide +kernel
theorem d56_89 : decode k56 89 = .ok (.bipush 41, 2) := by decide +kernel
theorem d56_91 : decode k56 91 = .ok (.istore 6, 2) := by decide +kernel
abbrev y_56 : MethodName := ⟨"com/example/kwerx/kwerx/cli/CommandLineUsageErrorPinLaw", "ok", "(Ljava/lang/String;Ljava/lang/String;Ljava/lang/String;I)Z"⟩
abbrev r_ok1 : Room := { frames := 5, cells := 2, slots := 40, locals := 66 }
theorem ef_ok1 (mt : MethodId) (m_ : Addr) (p_ : Addr) (u_ : Addr) (j : Nat) : entryFrame mt #[(.ref m_), (.ref p_), (.ref u_), (.int (own_I j))] 7 = mkF mt 0 #[.val (.ref m_), .val (.ref p_), .val (.ref u_), .val (.int (own_I j)), .unset, .unset, .unset] [] := by first | (simp [entryFrame, mkF, argsToLocals, Value.category]; done) | rfl
def Q_ok1 (Z : State) (m_ : Addr) (p_ : Addr) (u_ : Addr) (bsm : Addr) (ksm : ClassId) (zsm : Int32) (vsm : List Value) (com : Int32) (nm : Nat) (fm : Nat → Int32) (bsp : Addr) (ksp : ClassId) (zsp : Int32) (vsp : List Value) (cop : Int32) (np : Nat) (fp : Nat → Int32) (bsu : Addr) (ksu : ClassId) (zsu : Int32) (vsu : List Value) (cou : Int32) (nu : Nat) (fu : Nat → Int32) (j : Nat) (h0 : Heap) (n0 : Nat) (v : Option Value) (h : Heap) (L : List Loc) : Prop := v = some (.int 1) ∧ Fr n0 L ∧ Keep h0 h []
theorem rm_ok1 (l : Launch) (Z : State) (a0 : Array Value) (hw : ∀ d ∈ tables_1, d.before a0 Z = true) (ws : List Jvm.Cond) (m_ : Addr) (p_ : Addr) (u_ : Addr) (bsm : Addr) (ksm : ClassId) (zsm : Int32) (vsm : List Value) (com : Int32) (nm : Nat) (fm : Nat → Int32) (bsp : Addr) (ksp : ClassId) (zsp : Int32) (vsp : List Value) (cop : Int32) (np : Nat) (fp : Nat → Int32) (bsu : Addr) (ksu : ClassId) (zsu : Int32) (vsu : List Value) (cou : Int32) (nu : Nat) (fu : Nat → Int32) (j : Nat) (h0 : Heap) (n0 : Nat) (Z0 : n0 ≤ h0.size) (Em : Exa Z h0 m_ "java/lang/String") (Fvm : Fld Z h0 m_ "java/lang/String" "value" "[B" (.ref bsm)) (Fcm : Fld Z h0 m_ "java/lang/String" "coder" "B" (.int com)) (Vm : Arv Z h0 bsm ksm .byte zsm vsm (.int (0 : Int32))) (Hm : own_S com zsm nm fm vsm) (Ep : Exa Z h0 p_ "java/lang/String") (Fvp : Fld Z h0 p_ "java/lang/String" "value" "[B" (.ref bsp)) (Fcp : Fld Z h0 p_ "java/lang/String" "coder" "B" (.int cop)) (Vp : Arv Z h0 bsp ksp .byte zsp vsp (.int (0 : Int32))) (Hp : own_S cop zsp np fp vsp) (Eu : Exa Z h0 u_ "java/lang/String") (Fvu : Fld Z h0 u_ "java/lang/String" "value" "[B" (.ref bsu)) (Fcu : Fld Z h0 u_ "java/lang/String" "coder" "B" (.int cou)) (Vu : Arv Z h0 bsu ksu .byte zsu vsu (.int (0 : Int32))) (Hu : own_S cou zsu nu fu vsu) (HM : own_M np fp nu fu fm) (hnm_ : nm = np + 10 + nu) (hj : j < nm) (ST : own_St Z) (O : Old Z n0 h0) :
    MetFree l y_56 (head1 (Jvm.Cond.code y_56 k56 7 (some .boolean) :: ws) r_ok1) (fun aa UU => aa = #[(.ref m_), (.ref p_), (.ref u_), (.int (own_I j))] ∧ Z.Warmed39 UU.vm ∧ UU.heap = h0 ∧ CHv Z own_EL UU.vm h0 ∧ ∀ x ∈ ([] : List Addr), Safe Z own_EL UU.vm h0 x) (fun _ _ bl s _ => s.vm.MethodsKnown ∧ s.vm.FramesKnown bl) (fun _ UU oo UU' => ∃ vv LL, oo = .returned vv ∧ Q_ok1 Z m_ p_ u_ bsm ksm zsm vsm com nm fm bsp ksp zsp vsp cop np fp bsu ksu zsu vsu cou nu fu j h0 n0 vv UU'.heap LL ∧ (own_LitR Z) UU.vm UU.heap UU'.vm UU'.heap ∧ ReturnedEndW UU oo UU' LL r_ok1.cells r_ok1.slots) := by
  refine MetFree.of_bodySF (plainFor_of_name pn_5) hisR ?_
  intro p e s mt args below meth cd s₁ Bd hml0 hP hK
  obtain ⟨hA, hZ, hh, hC0, hSf⟩ := hP
  have hx := Bd.exec
  have hby := Bd.bytes
  have hml : cd.maxLocals = 7 := hml0
  have hown : s.vm.findClass "com/example/kwerx/kwerx/cli/CommandLineUsageErrorPinLaw" = some mt.cls := findClass_of_methodNamed Bd.named
  have hlk : meth.locks = false := BodyLoose.notSynchronized Bd
  have hrt := Bd.returns
  have X0 : Stand p l e r_ok1 s mt args below meth cd s₁ [] 0 0 := Stand.of_body Bd
  have e0 : s₁.heap = h0 := by rw [← hh, Bd.state]; rfl
  have N0 := Fr.nil n0
  have hC := CHr.refl hC0
  show Win p e below (EndsX (own_LitR Z) s (Q_ok1 Z m_ p_ u_ bsm ksm zsm vsm com nm fm bsp ksp zsp vsp cop np fp bsu ksu zsu vsu cou nu fu j h0 n0) r_ok1.cells r_ok1.slots) s₁ (entryFrame mt args 7)
  rw [hA, ef_ok1]
  obtain ⟨cs, u, S0, hcs, S1, hu, S2, S3, S4⟩ := id ST
  have bp := Hp.1
  have bu := Hu.1
  have bm := Hm.1
  refine w_iloadN X0 hx hby d56_0 rfl ?_
  refine w_aloadN X0 hx hby d56_1 rfl rfl ?_
  show Win _ _ _ _ s₁ (mkF mt 2 #[.val (.ref m_), .val (.ref p_), .val (.ref u_), .val (.int (own_I j)), .unset, .unset, .unset] [(.ref m_), (.int (own_I j))])
  obtain ⟨cq795, kq795, q795a, q795b, q795c⟩ := isOf hZ e0 Em
  obtain ⟨v795, _, ⟨T795, L795, k795, n795⟩, -, X795, ⟨Lc795, hQ795, l795, rfl, rfl⟩, st795⟩ := X0.virtualBack hx (y := y_3) (z := y_3) hown (mvT hZ (ow hw 203 rfl)) (mvT hZ (ow hw 62 rfl)) (notFace_of_selects (args := #[]) (mvT hZ (ow hw 64 rfl))) (mvT hZ (ow hw 64 rfl)) (mvT hZ (ow hw 63 rfl)) (by decide) (backOf (W := 1) (rm_slen l Z a0 hw [] m_ bsm ksm zsm vsm com nm fm h0 n0 Z0 Em Fvm Fcm Vm Hm ST O) hZ (ow hw 65 rfl) (ow hw 6 rfl) (by decide) (by decide)) q795a q795c (g := (mkF mt 2 #[.val (.ref m_), .val (.ref p_), .val (.ref u_), .val (.int (own_I j)), .unset, .unset, .unset] [(.ref m_), (.int (own_I j))])) rfl (by rw [hml]; rfl) (Steps.refl _) (argsL := []) (rest := [(.int (own_I j))]) (lenOf pd_27 rfl) rfl (wz rfl) (hb hby d56_2) (fun _ _ => ⟨rfl, e0, (by decide : 0 + 0 ≤ _), (by decide : 0 + 0 ≤ _)⟩)
  replace X795 : Stand p l e _ s mt args below meth cd T795 L795 0 0 := X795
  obtain ⟨rfl, Nq795, eh795⟩ := hQ795
  have N795 := own_fr (L := L795) l795 N0 Nq795
  refine Win.tr ?_ st795
  show Win _ _ _ _ T795 (mkF mt 5 #[.val (.ref m_), .val (.ref p_), .val (.ref u_), .val (.int (own_I j)), .unset, .unset, .unset] [(.int (own_I nm)), (.int (own_I j))])
  refine Win.st ?_ (fun tq kq => XS.icmpYes X795.here hx rfl (pc0 := 5) (pc' := 10) rfl (hb hby d56_5) rfl (tlt (own_I_lt hj (by omega))).1 (by decide) (by decide) kq)
  show Win _ _ _ _ T795 (mkF mt 10 #[.val (.ref m_), .val (.ref p_), .val (.ref u_), .val (.int (own_I j)), .unset, .unset, .unset] [])
  have k5 : j < nm := hj
  obtain ⟨li, T796, h796, kk796, lb, lk, X796, e796, E796, hS796, hk796, hZ796, hown796, LE796, LC796, LV796, LA796, -, -, hR796, hL796, hNe796, st796⟩ := ldcCH (s := s) (vm0 := s.vm) X795 hx hZ hown (ow hw 207 rfl) (own_strw hw) eh795 (State.WarmedH.since (State.WarmedH.refl s) 0) (Nat.zero_le _) (own_EW hw) (List.mem_of_getElem? (i := 2) rfl) hC.1 (vs := [(.int (32 : Int32)), (.int (40 : Int32)), (.int (117 : Int32)), (.int (115 : Int32)), (.int (97 : Int32)), (.int (103 : Int32)), (.int (101 : Int32)), (.int (58 : Int32)), (.int (32 : Int32))]) (z := (9 : Int32)) ⟨by decide +kernel, rfl⟩ (by decide) rfl (g := (mkF mt 10 #[.val (.ref m_), .val (.ref p_), .val (.ref u_), .val (.int (own_I j)), .unset, .unset, .unset] [])) rfl (hb hby d56_10) (n := 36) (by decide +kernel) (by decide) (by decide) (by decide)
  replace X796 : Stand p l e _ (s.setVm T796.vm) mt args below meth cd T796 _ 2 40 := X796
  have ke796 := own_kext E796
  have f797_20 := O.keep ke796 all0
  have f797_21 := Em.keep ke796
  have f797_22 := Fvm.keep ke796 nin0
  have f797_23 := Fcm.keep ke796 nin0
  have f797_24 := Vm.keep ke796 nin0
  have f797_25 := Ep.keep ke796
  have f797_26 := Fvp.keep ke796 nin0
  have f797_27 := Fcp.keep ke796 nin0
  have f797_28 := Vp.keep ke796 nin0
  have f797_29 := Eu.keep ke796
  have f797_30 := Fvu.keep ke796 nin0
  have f797_31 := Fcu.keep ke796 nin0
  have f797_32 := Vu.keep ke796 nin0
  have Z798 : n0 ≤ h796.size := Nat.le_trans Z0 ke796.1
  have K799 : Keep h0 h796 [] := Keep.trans (Keep.refl h0 []) ke796 all0
  refine Win.st ?_ st796
  show Win _ _ _ _ T796 (mkF mt 12 #[.val (.ref m_), .val (.ref p_), .val (.ref u_), .val (.int (own_I j)), .unset, .unset, .unset] [(.ref li)])
  refine Win.st ?_ (fun tq kq => XS.astore X796.here hx rfl (hb hby d56_12) rfl rfl (l' := #[.val (.ref m_), .val (.ref p_), .val (.ref u_), .val (.int (own_I j)), .val (.ref li), .unset, .unset]) rfl kq)
  refine w_aloadN X796 hx hby d56_14 rfl rfl ?_
  show Win _ _ _ _ T796 (mkF mt 15 #[.val (.ref m_), .val (.ref p_), .val (.ref u_), .val (.int (own_I j)), .val (.ref li), .unset, .unset] [(.ref p_)])
  obtain ⟨cq800, kq800, q800a, q800b, q800c⟩ := isOf hZ796 e796 f797_25
  obtain ⟨v800, _, ⟨T800, L800, k800, n800⟩, -, X800, ⟨Lc800, hQ800, l800, rfl, rfl⟩, st800⟩ := X796.virtualBack hx (y := y_3) (z := y_3) hown796 (mvT hZ796 (ow hw 203 rfl)) (mvT hZ796 (ow hw 62 rfl)) (notFace_of_selects (args := #[]) (mvT hZ796 (ow hw 64 rfl))) (mvT hZ796 (ow hw 64 rfl)) (mvT hZ796 (ow hw 63 rfl)) (by decide) (backOf (W := 0) (rm_slen l Z a0 hw [] p_ bsp ksp zsp vsp cop np fp h796 n0 Z798 f797_25 f797_26 f797_27 f797_28 Hp ST f797_20) hZ796 (ow hw 65 rfl) (ow hw 6 rfl) (by decide) (by decide)) q800a q800c (g := (mkF mt 15 #[.val (.ref m_), .val (.ref p_), .val (.ref u_), .val (.int (own_I j)), .val (.ref li), .unset, .unset] [(.ref p_)])) rfl (by rw [hml]; rfl) (Steps.refl _) (argsL := []) (rest := []) (lenOf pd_27 rfl) rfl (wz rfl) (hb hby d56_15) (fun _ _ => ⟨rfl, e796, (by decide : 2 + 0 ≤ _), (by decide : 40 + 0 ≤ _)⟩)
  replace X800 : Stand p l e _ (s.setVm T796.vm) mt args below meth cd T800 L800 2 40 := X800
  obtain ⟨rfl, Nq800, eh800⟩ := hQ800
  have N800 := own_fr (L := L800) l800 N795 Nq800
  refine Win.tr ?_ st800
  show Win _ _ _ _ T800 (mkF mt 18 #[.val (.ref m_), .val (.ref p_), .val (.ref u_), .val (.int (own_I j)), .val (.ref li), .unset, .unset] [(.int (own_I np))])
  refine Win.st ?_ (fun tq kq => XS.istore X800.here hx rfl (hb hby d56_18) rfl (l' := #[.val (.ref m_), .val (.ref p_), .val (.ref u_), .val (.int (own_I j)), .val (.ref li), .val (.int (own_I np)), .unset]) rfl kq)
  refine w_iloadN X800 hx hby d56_20 rfl ?_
  refine w_iload X800 hx hby d56_21 rfl ?_
  by_cases hc23 : (own_I j) < (own_I np)
  · refine Win.st ?_ (fun tq kq => XS.icmpNo X800.here hx rfl (hb hby d56_23) rfl (tlt hc23).2.1 kq)
    show Win _ _ _ _ T800 (mkF mt 26 #[.val (.ref m_), .val (.ref p_), .val (.ref u_), .val (.int (own_I j)), .val (.ref li), .val (.int (own_I np)), .unset] [])
    have k23 : j < np := own_I_of_lt hc23 (by omega) (by omega)
    refine w_aloadN X800 hx hby d56_26 rfl rfl ?_
    refine w_iloadN X800 hx hby d56_27 rfl ?_
    show Win _ _ _ _ T800 (mkF mt 28 #[.val (.ref m_), .val (.ref p_), .val (.ref u_), .val (.int (own_I j)), .val (.ref li), .val (.int (own_I np)), .unset] [(.int (own_I j)), (.ref p_)])
    obtain ⟨cq801, kq801, q801a, q801b, q801c⟩ := isOf hZ796 eh800 f797_25
    obtain ⟨v801, _, ⟨T801, L801, k801, n801⟩, -, X801, ⟨Lc801, hQ801, l801, rfl, rfl⟩, st801⟩ := X800.virtualBack hx (y := y_15) (z := y_15) hown796 (mvT hZ796 (ow hw 208 rfl)) (mvT hZ796 (ow hw 209 rfl)) (notFace_of_selects (args := #[]) (mvT hZ796 (ow hw 211 rfl))) (mvT hZ796 (ow hw 211 rfl)) (mvT hZ796 (ow hw 210 rfl)) (by decide) (backOf (W := 0) (rm_sch l Z a0 hw [] p_ bsp ksp zsp vsp cop np fp j h796 n0 Z798 f797_25 f797_26 f797_27 f797_28 Hp k23 ST f797_20) hZ796 (ow hw 212 rfl) (ow hw 6 rfl) (by decide) (by decide)) q801a q801c (g := (mkF mt 28 #[.val (.ref m_), .val (.ref p_), .val (.ref u_), .val (.int (own_I j)), .val (.ref li), .val (.int (own_I np)), .unset] [(.int (own_I j)), (.ref p_)])) rfl (by rw [hml]; rfl) (Steps.refl _) (argsL := [(.int (own_I j))]) (rest := []) (lenOf pd_37 rfl) rfl (wz rfl) (hb hby d56_28) (fun _ _ => ⟨rfl, eh800, (by decide : 2 + 0 ≤ _), (by decide : 40 + 0 ≤ _)⟩)
    replace X801 : Stand p l e _ (s.setVm T796.vm) mt args below meth cd T801 L801 2 40 := X801
    obtain ⟨rfl, Nq801, eh801⟩ := hQ801
    have N801 := own_fr (L := L801) l801 N800 Nq801
    refine Win.tr ?_ st801
    show Win _ _ _ _ T801 (mkF mt 31 #[.val (.ref m_), .val (.ref p_), .val (.ref u_), .val (.int (own_I j)), .val (.ref li), .val (.int (own_I np)), .unset] [(.int (fp j))])
    refine Win.st ?_ (fun tq kq => XS.istore X801.here hx rfl (hb hby d56_31) rfl (l' := #[.val (.ref m_), .val (.ref p_), .val (.ref u_), .val (.int (own_I j)), .val (.ref li), .val (.int (own_I np)), .val (.int (fp j))]) rfl kq)
    show Win _ _ _ _ T801 (mkF mt 33 #[.val (.ref m_), .val (.ref p_), .val (.ref u_), .val (.int (own_I j)), .val (.ref li), .val (.int (own_I np)), .val (.int (fp j))] [])
    refine Win.st ?_ (fun tq kq => XS.goto X801.here hx rfl (pc0 := 33) (pc' := 93) rfl (hb hby d56_33) (by decide) (by decide) kq)
    refine w_aloadN X801 hx hby d56_93 rfl rfl ?_
    refine w_iloadN X801 hx hby d56_94 rfl ?_
    show Win _ _ _ _ T801 (mkF mt 95 #[.val (.ref m_), .val (.ref p_), .val (.ref u_), .val (.int (own_I j)), .val (.ref li), .val (.int (own_I np)), .val (.int (fp j))] [(.int (own_I j)), (.ref m_)])
    obtain ⟨cq802, kq802, q802a, q802b, q802c⟩ := isOf hZ796 eh801 f797_21
    obtain ⟨v802, _, ⟨T802, L802, k802, n802⟩, -, X802, ⟨Lc802, hQ802, l802, rfl, rfl⟩, st802⟩ := X801.virtualBack hx (y := y_15) (z := y_15) hown796 (mvT hZ796 (ow hw 208 rfl)) (mvT hZ796 (ow hw 209 rfl)) (notFace_of_selects (args := #[]) (mvT hZ796 (ow hw 211 rfl))) (mvT hZ796 (ow hw 211 rfl)) (mvT hZ796 (ow hw 210 rfl)) (by decide) (backOf (W := 0) (rm_sch l Z a0 hw [] m_ bsm ksm zsm vsm com nm fm j h796 n0 Z798 f797_21 f797_22 f797_23 f797_24 Hm k5 ST f797_20) hZ796 (ow hw 212 rfl) (ow hw 6 rfl) (by decide) (by decide)) q802a q802c (g := (mkF mt 95 #[.val (.ref m_), .val (.ref p_), .val (.ref u_), .val (.int (own_I j)), .val (.ref li), .val (.int (own_I np)), .val (.int (fp j))] [(.int (own_I j)), (.ref m_)])) rfl (by rw [hml]; rfl) (Steps.refl _) (argsL := [(.int (own_I j))]) (rest := []) (lenOf pd_37 rfl) rfl (wz rfl) (hb hby d56_95) (fun _ _ => ⟨rfl, eh801, (by decide : 2 + 0 ≤ _), (by decide : 40 + 0 ≤ _)⟩)
    replace X802 : Stand p l e _ (s.setVm T796.vm) mt args below meth cd T802 L802 2 40 := X802
    obtain ⟨rfl, Nq802, eh802⟩ := hQ802
    have N802 := own_fr (L := L802) l802 N801 Nq802
    refine Win.tr ?_ st802
    refine w_iload X802 hx hby d56_98 rfl ?_
    refine Win.st ?_ (fun tq kq => XS.icmpNo X802.here hx rfl (hb hby d56_100) rfl (teq (HM.1 j k23)).2 kq)
    refine w_iconst X802 hx hby d56_103 ?_
    show Win _ _ _ _ T802 (mkF mt 104 #[.val (.ref m_), .val (.ref p_), .val (.ref u_), .val (.int (own_I j)), .val (.ref li), .val (.int (own_I np)), .val (.int (fp j))] [(.int (1 : Int32))])
    refine Win.st ?_ (fun tq kq => XS.goto X802.here hx rfl (pc0 := 104) (pc' := 108) rfl (hb hby d56_104) (by decide) (by decide) kq)
    show Win _ _ _ _ T802 (mkF mt 108 #[.val (.ref m_), .val (.ref p_), .val (.ref u_), .val (.int (own_I j)), .val (.ref li), .val (.int (own_I np)), .val (.int (fp j))] [(.int (1 : Int32))])
    exact Win.retNX (s := s) (vm₁ := T796.vm) X802 hS796 hk796 hx hlk eh802 (t := .boolean) (z' := (1 : Int32)) hrt (by simp) (hb hby d56_108) (by decide) (by decide) rfl ⟨li, lb, lk, Lit.stays hL796 (wtrans (s := s.setVm T796.vm) (State.Warmed39.refl _) X802.warmed), LE796, LV796, LC796, LA796⟩ ⟨rfl, N802, K799⟩
  · refine Win.st ?_ (fun tq kq => XS.icmpYes X800.here hx rfl (pc0 := 23) (pc' := 36) rfl (hb hby d56_23) rfl (flt hc23).2.1 (by decide) (by decide) kq)
    show Win _ _ _ _ T800 (mkF mt 36 #[.val (.ref m_), .val (.ref p_), .val (.ref u_), .val (.int (own_I j)), .val (.ref li), .val (.int (own_I np)), .unset] [])
    have k23 : np ≤ j := own_I_of_nlt hc23 (by omega) (by omega)
    refine w_iloadN X800 hx hby d56_36 rfl ?_
    refine w_iload X800 hx hby d56_37 rfl ?_
    refine w_bipush X800 hx hby d56_39 ?_
    refine Win.st ?_ (fun tq kq => XS.iadd X800.here hx rfl (hb hby d56_41) rfl kq)
    show Win _ _ _ _ T800 (mkF mt 42 #[.val (.ref m_), .val (.ref p_), .val (.ref u_), .val (.int (own_I j)), .val (.ref li), .val (.int (own_I np)), .unset] [(.int ((own_I np) + (9 : Int32))), (.int (own_I j))])
    rw [own_I_add9 np]
    show Win _ _ _ _ T800 (mkF mt 42 #[.val (.ref m_), .val (.ref p_), .val (.ref u_), .val (.int (own_I j)), .val (.ref li), .val (.int (own_I np)), .unset] [(.int (own_I (np + 9))), (.int (own_I j))])
    by_cases hc42 : (own_I j) < (own_I (np + 9))
    · refine Win.st ?_ (fun tq kq => XS.icmpNo X800.here hx rfl (hb hby d56_42) rfl (tlt hc42).2.1 kq)
      show Win _ _ _ _ T800 (mkF mt 45 #[.val (.ref m_), .val (.ref p_), .val (.ref u_), .val (.int (own_I j)), .val (.ref li), .val (.int (own_I np)), .unset] [])
      have k42 : j < np + 9 := own_I_of_lt hc42 (by omega) (by omega)
      refine w_aload X800 hx hby d56_45 rfl rfl ?_
      refine w_iloadN X800 hx hby d56_47 rfl ?_
      refine w_iload X800 hx hby d56_48 rfl ?_
      refine Win.st ?_ (fun tq kq => XS.isub X800.here hx rfl (hb hby d56_50) rfl kq)
      show Win _ _ _ _ T800 (mkF mt 51 #[.val (.ref m_), .val (.ref p_), .val (.ref u_), .val (.int (own_I j)), .val (.ref li), .val (.int (own_I np)), .unset] [(.int ((own_I j) - (own_I np))), (.ref li)])
      rw [own_I_sub k23]
      show Win _ _ _ _ T800 (mkF mt 51 #[.val (.ref m_), .val (.ref p_), .val (.ref u_), .val (.int (own_I j)), .val (.ref li), .val (.int (own_I np)), .unset] [(.int (own_I (j - np))), (.ref li)])
      obtain ⟨cq803, kq803, q803a, q803b, q803c⟩ := isOf hZ796 eh800 LE796
      obtain ⟨v803, _, ⟨T803, L803, k803, n803⟩, -, X803, ⟨Lc803, hQ803, l803, rfl, rfl⟩, st803⟩ := X800.virtualBack hx (y := y_15) (z := y_15) hown796 (mvT hZ796 (ow hw 208 rfl)) (mvT hZ796 (ow hw 209 rfl)) (notFace_of_selects (args := #[]) (mvT hZ796 (ow hw 211 rfl))) (mvT hZ796 (ow hw 211 rfl)) (mvT hZ796 (ow hw 210 rfl)) (by decide) (backOf (W := 0) (rm_sch l Z a0 hw [] li lb lk (9 : Int32) [(.int (32 : Int32)), (.int (40 : Int32)), (.int (117 : Int32)), (.int (115 : Int32)), (.int (97 : Int32)), (.int (103 : Int32)), (.int (101 : Int32)), (.int (58 : Int32)), (.int (32 : Int32))] (0 : Int32) 9 own_lu (j - np) h796 n0 Z798 LE796 LV796 LC796 LA796 own_S_lu (by omega) ST f797_20) hZ796 (ow hw 212 rfl) (ow hw 6 rfl) (by decide) (by decide)) q803a q803c (g := (mkF mt 51 #[.val (.ref m_), .val (.ref p_), .val (.ref u_), .val (.int (own_I j)), .val (.ref li), .val (.int (own_I np)), .unset] [(.int (own_I (j - np))), (.ref li)])) rfl (by rw [hml]; rfl) (Steps.refl _) (argsL := [(.int (own_I (j - np)))]) (rest := []) (lenOf pd_37 rfl) rfl (wz rfl) (hb hby d56_51) (fun _ _ => ⟨rfl, eh800, (by decide : 2 + 0 ≤ _), (by decide : 40 + 0 ≤ _)⟩)
      replace X803 : Stand p l e _ (s.setVm T796.vm) mt args below meth cd T803 L803 2 40 := X803
      obtain ⟨rfl, Nq803, eh803⟩ := hQ803
      have N803 := own_fr (L := L803) l803 N800 Nq803
      refine Win.tr ?_ st803
      show Win _ _ _ _ T803 (mkF mt 54 #[.val (.ref m_), .val (.ref p_), .val (.ref u_), .val (.int (own_I j)), .val (.ref li), .val (.int (own_I np)), .unset] [(.int (own_lu (j - np)))])
      refine Win.st ?_ (fun tq kq => XS.istore X803.here hx rfl (hb hby d56_54) rfl (l' := #[.val (.ref m_), .val (.ref p_), .val (.ref u_), .val (.int (own_I j)), .val (.ref li), .val (.int (own_I np)), .val (.int (own_lu (j - np)))]) rfl kq)
      show Win _ _ _ _ T803 (mkF mt 56 #[.val (.ref m_), .val (.ref p_), .val (.ref u_), .val (.int (own_I j)), .val (.ref li), .val (.int (own_I np)), .val (.int (own_lu (j - np)))] [])
      refine Win.st ?_ (fun tq kq => XS.goto X803.here hx rfl (pc0 := 56) (pc' := 93) rfl (hb hby d56_56) (by decide) (by decide) kq)
      refine w_aloadN X803 hx hby d56_93 rfl rfl ?_
      refine w_iloadN X803 hx hby d56_94 rfl ?_
      show Win _ _ _ _ T803 (mkF mt 95 #[.val (.ref m_), .val (.ref p_), .val (.ref u_), .val (.int (own_I j)), .val (.ref li), .val (.int (own_I np)), .val (.int (own_lu (j - np)))] [(.int (own_I j)), (.ref m_)])
      obtain ⟨cq804, kq804, q804a, q804b, q804c⟩ := isOf hZ796 eh803 f797_21
      obtain ⟨v804, _, ⟨T804, L804, k804, n804⟩, -, X804, ⟨Lc804, hQ804, l804, rfl, rfl⟩, st804⟩ := X803.virtualBack hx (y := y_15) (z := y_15) hown796 (mvT hZ796 (ow hw 208 rfl)) (mvT hZ796 (ow hw 209 rfl)) (notFace_of_selects (args := #[]) (mvT hZ796 (ow hw 211 rfl))) (mvT hZ796 (ow hw 211 rfl)) (mvT hZ796 (ow hw 210 rfl)) (by decide) (backOf (W := 0) (rm_sch l Z a0 hw [] m_ bsm ksm zsm vsm com nm fm j h796 n0 Z798 f797_21 f797_22 f797_23 f797_24 Hm k5 ST f797_20) hZ796 (ow hw 212 rfl) (ow hw 6 rfl) (by decide) (by decide)) q804a q804c (g := (mkF mt 95 #[.val (.ref m_), .val (.ref p_), .val (.ref u_), .val (.int (own_I j)), .val (.ref li), .val (.int (own_I np)), .val (.int (own_lu (j - np)))] [(.int (own_I j)), (.ref m_)])) rfl (by rw [hml]; rfl) (Steps.refl _) (argsL := [(.int (own_I j))]) (rest := []) (lenOf pd_37 rfl) rfl (wz rfl) (hb hby d56_95) (fun _ _ => ⟨rfl, eh803, (by decide : 2 + 0 ≤ _), (by decide : 40 + 0 ≤ _)⟩)
      replace X804 : Stand p l e _ (s.setVm T796.vm) mt args below meth cd T804 L804 2 40 := X804
      obtain ⟨rfl, Nq804, eh804⟩ := hQ804
      have N804 := own_fr (L := L804) l804 N803 Nq804
      refine Win.tr ?_ st804
      refine w_iload X804 hx hby d56_98 rfl ?_
      refine Win.st ?_ (fun tq kq => XS.icmpNo X804.here hx rfl (hb hby d56_100) rfl (teq (own_M1 HM k23 k42)).2 kq)
      refine w_iconst X804 hx hby d56_103 ?_
      show Win _ _ _ _ T804 (mkF mt 104 #[.val (.ref m_), .val (.ref p_), .val (.ref u_), .val (.int (own_I j)), .val (.ref li), .val (.int (own_I np)), .val (.int (own_lu (j - np)))] [(.int (1 : Int32))])
      refine Win.st ?_ (fun tq kq => XS.goto X804.here hx rfl (pc0 := 104) (pc' := 108) rfl (hb hby d56_104) (by decide) (by decide) kq)
      show Win _ _ _ _ T804 (mkF mt 108 #[.val (.ref m_), .val (.ref p_), .val (.ref u_), .val (.int (own_I j)), .val (.ref li), .val (.int (own_I np)), .val (.int (own_lu (j - np)))] [(.int (1 : Int32))])
      exact Win.retNX (s := s) (vm₁ := T796.vm) X804 hS796 hk796 hx hlk eh804 (t := .boolean) (z' := (1 : Int32)) hrt (by simp) (hb hby d56_108) (by decide) (by decide) rfl ⟨li, lb, lk, Lit.stays hL796 (wtrans (s := s.setVm T796.vm) (State.Warmed39.refl _) X804.warmed), LE796, LV796, LC796, LA796⟩ ⟨rfl, N804, K799⟩
    · refine Win.st ?_ (fun tq kq => XS.icmpYes X800.here hx rfl (pc0 := 42) (pc' := 59) rfl (hb hby d56_42) rfl (flt hc42).2.1 (by decide) (by decide) kq)
      show Win _ _ _ _ T800 (mkF mt 59 #[.val (.ref m_), .val (.ref p_), .val (.ref u_), .val (.int (own_I j)), .val (.ref li), .val (.int (own_I np)), .unset] [])
      have k42 : np + 9 ≤ j := own_I_of_nlt hc42 (by omega) (by omega)
      refine w_iloadN X800 hx hby d56_59 rfl ?_
      refine w_iload X800 hx hby d56_60 rfl ?_
      refine w_bipush X800 hx hby d56_62 ?_
      refine Win.st ?_ (fun tq kq => XS.iadd X800.here hx rfl (hb hby d56_64) rfl kq)
      show Win _ _ _ _ T800 (mkF mt 65 #[.val (.ref m_), .val (.ref p_), .val (.ref u_), .val (.int (own_I j)), .val (.ref li), .val (.int (own_I np)), .unset] [(.int ((own_I np) + (9 : Int32))), (.int (own_I j))])
      rw [own_I_add9 np]
      show Win _ _ _ _ T800 (mkF mt 65 #[.val (.ref m_), .val (.ref p_), .val (.ref u_), .val (.int (own_I j)), .val (.ref li), .val (.int (own_I np)), .unset] [(.int (own_I (np + 9))), (.int (own_I j))])
      refine w_aloadN X800 hx hby d56_65 rfl rfl ?_
      show Win _ _ _ _ T800 (mkF mt 66 #[.val (.ref m_), .val (.ref p_), .val (.ref u_), .val (.int (own_I j)), .val (.ref li), .val (.int (own_I np)), .unset] [(.ref u_), (.int (own_I (np + 9))), (.int (own_I j))])
      obtain ⟨cq805, kq805, q805a, q805b, q805c⟩ := isOf hZ796 eh800 f797_29
      obtain ⟨v805, _, ⟨T805, L805, k805, n805⟩, -, X805, ⟨Lc805, hQ805, l805, rfl, rfl⟩, st805⟩ := X800.virtualBack hx (y := y_3) (z := y_3) hown796 (mvT hZ796 (ow hw 203 rfl)) (mvT hZ796 (ow hw 62 rfl)) (notFace_of_selects (args := #[]) (mvT hZ796 (ow hw 64 rfl))) (mvT hZ796 (ow hw 64 rfl)) (mvT hZ796 (ow hw 63 rfl)) (by decide) (backOf (W := 2) (rm_slen l Z a0 hw [] u_ bsu ksu zsu vsu cou nu fu h796 n0 Z798 f797_29 f797_30 f797_31 f797_32 Hu ST f797_20) hZ796 (ow hw 65 rfl) (ow hw 6 rfl) (by decide) (by decide)) q805a q805c (g := (mkF mt 66 #[.val (.ref m_), .val (.ref p_), .val (.ref u_), .val (.int (own_I j)), .val (.ref li), .val (.int (own_I np)), .unset] [(.ref u_), (.int (own_I (np + 9))), (.int (own_I j))])) rfl (by rw [hml]; rfl) (Steps.refl _) (argsL := []) (rest := [(.int (own_I (np + 9))), (.int (own_I j))]) (lenOf pd_27 rfl) rfl (wz rfl) (hb hby d56_66) (fun _ _ => ⟨rfl, eh800, (by decide : 2 + 0 ≤ _), (by decide : 40 + 0 ≤ _)⟩)
      replace X805 : Stand p l e _ (s.setVm T796.vm) mt args below meth cd T805 L805 2 40 := X805
      obtain ⟨rfl, Nq805, eh805⟩ := hQ805
      have N805 := own_fr (L := L805) l805 N800 Nq805
      refine Win.tr ?_ st805
      show Win _ _ _ _ T805 (mkF mt 69 #[.val (.ref m_), .val (.ref p_), .val (.ref u_), .val (.int (own_I j)), .val (.ref li), .val (.int (own_I np)), .unset] [(.int (own_I nu)), (.int (own_I (np + 9))), (.int (own_I j))])
      refine Win.st ?_ (fun tq kq => XS.iadd X805.here hx rfl (hb hby d56_69) rfl kq)
      show Win _ _ _ _ T805 (mkF mt 70 #[.val (.ref m_), .val (.ref p_), .val (.ref u_), .val (.int (own_I j)), .val (.ref li), .val (.int (own_I np)), .unset] [(.int ((own_I (np + 9)) + (own_I nu))), (.int (own_I j))])
      rw [own_I_add (np + 9) nu]
      show Win _ _ _ _ T805 (mkF mt 70 #[.val (.ref m_), .val (.ref p_), .val (.ref u_), .val (.int (own_I j)), .val (.ref li), .val (.int (own_I np)), .unset] [(.int (own_I (np + 9 + nu))), (.int (own_I j))])
      by_cases hc70 : (own_I j) < (own_I (np + 9 + nu))
      · refine Win.st ?_ (fun tq kq => XS.icmpNo X805.here hx rfl (hb hby d56_70) rfl (tlt hc70).2.1 kq)
        show Win _ _ _ _ T805 (mkF mt 73 #[.val (.ref m_), .val (.ref p_), .val (.ref u_), .val (.int (own_I j)), .val (.ref li), .val (.int (own_I np)), .unset] [])
        have k70 : j < np + 9 + nu := own_I_of_lt hc70 (by omega) (by omega)
        refine w_aloadN X805 hx hby d56_73 rfl rfl ?_
        refine w_iloadN X805 hx hby d56_74 rfl ?_
        refine w_iload X805 hx hby d56_75 rfl ?_
        refine Win.st ?_ (fun tq kq => XS.isub X805.here hx rfl (hb hby d56_77) rfl kq)
        show Win _ _ _ _ T805 (mkF mt 78 #[.val (.ref m_), .val (.ref p_), .val (.ref u_), .val (.int (own_I j)), .val (.ref li), .val (.int (own_I np)), .unset] [(.int ((own_I j) - (own_I np))), (.ref u_)])
        rw [own_I_sub k23]
        show Win _ _ _ _ T805 (mkF mt 78 #[.val (.ref m_), .val (.ref p_), .val (.ref u_), .val (.int (own_I j)), .val (.ref li), .val (.int (own_I np)), .unset] [(.int (own_I (j - np))), (.ref u_)])
        refine w_bipush X805 hx hby d56_78 ?_
        refine Win.st ?_ (fun tq kq => XS.isub X805.here hx rfl (hb hby d56_80) rfl kq)
        show Win _ _ _ _ T805 (mkF mt 81 #[.val (.ref m_), .val (.ref p_), .val (.ref u_), .val (.int (own_I j)), .val (.ref li), .val (.int (own_I np)), .unset] [(.int ((own_I (j - np)) - (9 : Int32))), (.ref u_)])
        rw [own_I_sub9 (n := j - np) (by omega)]
        show Win _ _ _ _ T805 (mkF mt 81 #[.val (.ref m_), .val (.ref p_), .val (.ref u_), .val (.int (own_I j)), .val (.ref li), .val (.int (own_I np)), .unset] [(.int (own_I (j - np - 9))), (.ref u_)])
        obtain ⟨cq806, kq806, q806a, q806b, q806c⟩ := isOf hZ796 eh805 f797_29
        obtain ⟨v806, _, ⟨T806, L806, k806, n806⟩, -, X806, ⟨Lc806, hQ806, l806, rfl, rfl⟩, st806⟩ := X805.virtualBack hx (y := y_15) (z := y_15) hown796 (mvT hZ796 (ow hw 208 rfl)) (mvT hZ796 (ow hw 209 rfl)) (notFace_of_selects (args := #[]) (mvT hZ796 (ow hw 211 rfl))) (mvT hZ796 (ow hw 211 rfl)) (mvT hZ796 (ow hw 210 rfl)) (by decide) (backOf (W := 0) (rm_sch l Z a0 hw [] u_ bsu ksu zsu vsu cou nu fu (j - np - 9) h796 n0 Z798 f797_29 f797_30 f797_31 f797_32 Hu (by omega) ST f797_20) hZ796 (ow hw 212 rfl) (ow hw 6 rfl) (by decide) (by decide)) q806a q806c (g := (mkF mt 81 #[.val (.ref m_), .val (.ref p_), .val (.ref u_), .val (.int (own_I j)), .val (.ref li), .val (.int (own_I np)), .unset] [(.int (own_I (j - np - 9))), (.ref u_)])) rfl (by rw [hml]; rfl) (Steps.refl _) (argsL := [(.int (own_I (j - np - 9)))]) (rest := []) (lenOf pd_37 rfl) rfl (wz rfl) (hb hby d56_81) (fun _ _ => ⟨rfl, eh805, (by decide : 2 + 0 ≤ _), (by decide : 40 + 0 ≤ _)⟩)
        replace X806 : Stand p l e _ (s.setVm T796.vm) mt args below meth cd T806 L806 2 40 := X806
        obtain ⟨rfl, Nq806, eh806⟩ := hQ806
        have N806 := own_fr (L := L806) l806 N805 Nq806
        refine Win.tr ?_ st806
        show Win _ _ _ _ T806 (mkF mt 84 #[.val (.ref m_), .val (.ref p_), .val (.ref u_), .val (.int (own_I j)), .val (.ref li), .val (.int (own_I np)), .unset] [(.int (fu (j - np - 9)))])
        refine Win.st ?_ (fun tq kq => XS.istore X806.here hx rfl (hb hby d56_84) rfl (l' := #[.val (.ref m_), .val (.ref p_), .val (.ref u_), .val (.int (own_I j)), .val (.ref li), .val (.int (own_I np)), .val (.int (fu (j - np - 9)))]) rfl kq)
        show Win _ _ _ _ T806 (mkF mt 86 #[.val (.ref m_), .val (.ref p_), .val (.ref u_), .val (.int (own_I j)), .val (.ref li), .val (.int (own_I np)), .val (.int (fu (j - np - 9)))] [])
        refine Win.st ?_ (fun tq kq => XS.goto X806.here hx rfl (pc0 := 86) (pc' := 93) rfl (hb hby d56_86) (by decide) (by decide) kq)
        refine w_aloadN X806 hx hby d56_93 rfl rfl ?_
        refine w_iloadN X806 hx hby d56_94 rfl ?_
        show Win _ _ _ _ T806 (mkF mt 95 #[.val (.ref m_), .val (.ref p_), .val (.ref u_), .val (.int (own_I j)), .val (.ref li), .val (.int (own_I np)), .val (.int (fu (j - np - 9)))] [(.int (own_I j)), (.ref m_)])
        obtain ⟨cq807, kq807, q807a, q807b, q807c⟩ := isOf hZ796 eh806 f797_21
        obtain ⟨v807, _, ⟨T807, L807, k807, n807⟩, -, X807, ⟨Lc807, hQ807, l807, rfl, rfl⟩, st807⟩ := X806.virtualBack hx (y := y_15) (z := y_15) hown796 (mvT hZ796 (ow hw 208 rfl)) (mvT hZ796 (ow hw 209 rfl)) (notFace_of_selects (args := #[]) (mvT hZ796 (ow hw 211 rfl))) (mvT hZ796 (ow hw 211 rfl)) (mvT hZ796 (ow hw 210 rfl)) (by decide) (backOf (W := 0) (rm_sch l Z a0 hw [] m_ bsm ksm zsm vsm com nm fm j h796 n0 Z798 f797_21 f797_22 f797_23 f797_24 Hm k5 ST f797_20) hZ796 (ow hw 212 rfl) (ow hw 6 rfl) (by decide) (by decide)) q807a q807c (g := (mkF mt 95 #[.val (.ref m_), .val (.ref p_), .val (.ref u_), .val (.int (own_I j)), .val (.ref li), .val (.int (own_I np)), .val (.int (fu (j - np - 9)))] [(.int (own_I j)), (.ref m_)])) rfl (by rw [hml]; rfl) (Steps.refl _) (argsL := [(.int (own_I j))]) (rest := []) (lenOf pd_37 rfl) rfl (wz rfl) (hb hby d56_95) (fun _ _ => ⟨rfl, eh806, (by decide : 2 + 0 ≤ _), (by decide : 40 + 0 ≤ _)⟩)
        replace X807 : Stand p l e _ (s.setVm T796.vm) mt args below meth cd T807 L807 2 40 := X807
        obtain ⟨rfl, Nq807, eh807⟩ := hQ807
        have N807 := own_fr (L := L807) l807 N806 Nq807
        refine Win.tr ?_ st807
        refine w_iload X807 hx hby d56_98 rfl ?_
        refine Win.st ?_ (fun tq kq => XS.icmpNo X807.here hx rfl (hb hby d56_100) rfl (teq (own_M2 HM k42 k70)).2 kq)
        refine w_iconst X807 hx hby d56_103 ?_
        show Win _ _ _ _ T807 (mkF mt 104 #[.val (.ref m_), .val (.ref p_), .val (.ref u_), .val (.int (own_I j)), .val (.ref li), .val (.int (own_I np)), .val (.int (fu (j - np - 9)))] [(.int (1 : Int32))])
        refine Win.st ?_ (fun tq kq => XS.goto X807.here hx rfl (pc0 := 104) (pc' := 108) rfl (hb hby d56_104) (by decide) (by decide) kq)
        show Win _ _ _ _ T807 (mkF mt 108 #[.val (.ref m_), .val (.ref p_), .val (.ref u_), .val (.int (own_I j)), .val (.ref li), .val (.int (own_I np)), .val (.int (fu (j - np - 9)))] [(.int (1 : Int32))])
        exact Win.retNX (s := s) (vm₁ := T796.vm) X807 hS796 hk796 hx hlk eh807 (t := .boolean) (z' := (1 : Int32)) hrt (by simp) (hb hby d56_108) (by decide) (by decide) rfl ⟨li, lb, lk, Lit.stays hL796 (wtrans (s := s.setVm T796.vm) (State.Warmed39.refl _) X807.warmed), LE796, LV796, LC796, LA796⟩ ⟨rfl, N807, K799⟩
      · refine Win.st ?_ (fun tq kq => XS.icmpYes X805.here hx rfl (pc0 := 70) (pc' := 89) rfl (hb hby d56_70) rfl (flt hc70).2.1 (by decide) (by decide) kq)
        show Win _ _ _ _ T805 (mkF mt 89 #[.val (.ref m_), .val (.ref p_), .val (.ref u_), .val (.int (own_I j)), .val (.ref li), .val (.int (own_I np)), .unset] [])
        have k70 : np + 9 + nu ≤ j := own_I_of_nlt hc70 (by omega) (by omega)
        refine w_bipush X805 hx hby d56_89 ?_
        refine Win.st ?_ (fun tq kq => XS.istore X805.here hx rfl (hb hby d56_91) rfl (l' := #[.val (.ref m_), .val (.ref p_), .val (.ref u_), .val (.int (own_I j)), .val (.ref li), .val (.int (own_I np)), .val (.int (41 : Int32))]) rfl kq)
        refine w_aloadN X805 hx hby d56_93 rfl rfl ?_
        refine w_iloadN X805 hx hby d56_94 rfl ?_
        show Win _ _ _ _ T805 (mkF mt 95 #[.val (.ref m_), .val (.ref p_), .val (.ref u_), .val (.int (own_I j)), .val (.ref li), .val (.int (own_I np)), .val (.int (41 : Int32))] [(.int (own_I j)), (.ref m_)])
        obtain ⟨cq808, kq808, q808a, q808b, q808c⟩ := isOf hZ796 eh805 f797_21
        obtain ⟨v808, _, ⟨T808, L808, k808, n808⟩, -, X808, ⟨Lc808, hQ808, l808, rfl, rfl⟩, st808⟩ := X805.virtualBack hx (y := y_15) (z := y_15) hown796 (mvT hZ796 (ow hw 208 rfl)) (mvT hZ796 (ow hw 209 rfl)) (notFace_of_selects (args := #[]) (mvT hZ796 (ow hw 211 rfl))) (mvT hZ796 (ow hw 211 rfl)) (mvT hZ796 (ow hw 210 rfl)) (by decide) (backOf (W := 0) (rm_sch l Z a0 hw [] m_ bsm ksm zsm vsm com nm fm j h796 n0 Z798 f797_21 f797_22 f797_23 f797_24 Hm k5 ST f797_20) hZ796 (ow hw 212 rfl) (ow hw 6 rfl) (by decide) (by decide)) q808a q808c (g := (mkF mt 95 #[.val (.ref m_), .val (.ref p_), .val (.ref u_), .val (.int (own_I j)), .val (.ref li), .val (.int (own_I np)), .val (.int (41 : Int32))] [(.int (own_I j)), (.ref m_)])) rfl (by rw [hml]; rfl) (Steps.refl _) (argsL := [(.int (own_I j))]) (rest := []) (lenOf pd_37 rfl) rfl (wz rfl) (hb hby d56_95) (fun _ _ => ⟨rfl, eh805, (by decide : 2 + 0 ≤ _), (by decide : 40 + 0 ≤ _)⟩)
        replace X808 : Stand p l e _ (s.setVm T796.vm) mt args below meth cd T808 L808 2 40 := X808
        obtain ⟨rfl, Nq808, eh808⟩ := hQ808
        have N808 := own_fr (L := L808) l808 N805 Nq808
        refine Win.tr ?_ st808
        refine w_iload X808 hx hby d56_98 rfl ?_
        refine Win.st ?_ (fun tq kq => XS.icmpNo X808.here hx rfl (hb hby d56_100) rfl (teq (own_M3 HM k70 (by omega))).2 kq)
        refine w_iconst X808 hx hby d56_103 ?_
        show Win _ _ _ _ T808 (mkF mt 104 #[.val (.ref m_), .val (.ref p_), .val (.ref u_), .val (.int (own_I j)), .val (.ref li), .val (.int (own_I np)), .val (.int (41 : Int32))] [(.int (1 : Int32))])
        refine Win.st ?_ (fun tq kq => XS.goto X808.here hx rfl (pc0 := 104) (pc' := 108) rfl (hb hby d56_104) (by decide) (by decide) kq)
        show Win _ _ _ _ T808 (mkF mt 108 #[.val (.ref m_), .val (.ref p_), .val (.ref u_), .val (.int (own_I j)), .val (.ref li), .val (.int (own_I np)), .val (.int (41 : Int32))] [(.int (1 : Int32))])
        exact Win.retNX (s := s) (vm₁ := T796.vm) X808 hS796 hk796 hx hlk eh808 (t := .boolean) (z' := (1 : Int32)) hrt (by simp) (hb hby d56_108) (by decide) (by decide) rfl ⟨li, lb, lk, Lit.stays hL796 (wtrans (s := s.setVm T796.vm) (State.Warmed39.refl _) X808.warmed), LE796, LV796, LC796, LA796⟩ ⟨rfl, N808, K799⟩
theorem d56_8 : decode k56 8 = .ok (.iconst 1, 1) := by decide +kernel
theorem d56_9 : decode k56 9 = .ok (.ireturn, 1) := by decide +kernel
abbrev r_ok2 : Room := { frames := 5, cells := 0, slots := 0, locals := 66 }
theorem ef_ok2 (mt : MethodId) (m_ : Addr) (p_ : Addr) (u_ : Addr) (j : Nat) : entryFrame mt #[(.ref m_), (.ref p_), (.ref u_), (.int (own_I j))] 7 = mkF mt 0 #[.val (.ref m_), .val (.ref p_), .val (.ref u_), .val (.int (own_I j)), .unset, .unset, .unset] [] := by first | (simp [entryFrame, mkF, argsToLocals, Value.category]; done) | rfl
def Q_ok2 (Z : State) (m_ : Addr) (p_ : Addr) (u_ : Addr) (bsm : Addr) (ksm : ClassId) (zsm : Int32) (vsm : List Value) (com : Int32) (nm : Nat) (fm : Nat → Int32) (bsp : Addr) (ksp : ClassId) (zsp : Int32) (vsp : List Value) (cop : Int32) (np : Nat) (fp : Nat → Int32) (bsu : Addr) (ksu : ClassId) (zsu : Int32) (vsu : List Value) (cou : Int32) (nu : Nat) (fu : Nat → Int32) (j : Nat) (li : Addr) (lb : Addr) (lk : ClassId) (h0 : Heap) (n0 : Nat) (v : Option Value) (h : Heap) (L : List Loc) : Prop := v = some (.int 1) ∧ Fr n0 L ∧ h = h0
theorem rm_ok2 (l : Launch) (Z : State) (a0 : Array Value) (hw : ∀ d ∈ tables_1, d.before a0 Z = true) (ws : List Jvm.Cond) (m_ : Addr) (p_ : Addr) (u_ : Addr) (bsm : Addr) (ksm : ClassId) (zsm : Int32) (vsm : List Value) (com : Int32) (nm : Nat) (fm : Nat → Int32) (bsp : Addr) (ksp : ClassId) (zsp : Int32) (vsp : List Value) (cop : Int32) (np : Nat) (fp : Nat → Int32) (bsu : Addr) (ksu : ClassId) (zsu : Int32) (vsu : List Value) (cou : Int32) (nu : Nat) (fu : Nat → Int32) (j : Nat) (li : Addr) (lb : Addr) (lk : ClassId) (h0 : Heap) (n0 : Nat) (Z0 : n0 ≤ h0.size) (Em : Exa Z h0 m_ "java/lang/String") (Fvm : Fld Z h0 m_ "java/lang/String" "value" "[B" (.ref bsm)) (Fcm : Fld Z h0 m_ "java/lang/String" "coder" "B" (.int com)) (Vm : Arv Z h0 bsm ksm .byte zsm vsm (.int (0 : Int32))) (Hm : own_S com zsm nm fm vsm) (Ep : Exa Z h0 p_ "java/lang/String") (Fvp : Fld Z h0 p_ "java/lang/String" "value" "[B" (.ref bsp)) (Fcp : Fld Z h0 p_ "java/lang/String" "coder" "B" (.int cop)) (Vp : Arv Z h0 bsp ksp .byte zsp vsp (.int (0 : Int32))) (Hp : own_S cop zsp np fp vsp) (Eu : Exa Z h0 u_ "java/lang/String") (Fvu : Fld Z h0 u_ "java/lang/String" "value" "[B" (.ref bsu)) (Fcu : Fld Z h0 u_ "java/lang/String" "coder" "B" (.int cou)) (Vu : Arv Z h0 bsu ksu .byte zsu vsu (.int (0 : Int32))) (Hu : own_S cou zsu nu fu vsu) (HM : own_M np fp nu fu fm) (hnm_ : nm = np + 10 + nu) (hj : j ≤ 15) (ST : own_St Z) (O : Old Z n0 h0) (El : Exa Z h0 li "java/lang/String") (Fvl : Fld Z h0 li "java/lang/String" "value" "[B" (.ref lb)) (Fcl : Fld Z h0 li "java/lang/String" "coder" "B" (.int (0 : Int32))) (Vl : Arv Z h0 lb lk .byte (9 : Int32) [(.int (32 : Int32)), (.int (40 : Int32)), (.int (117 : Int32)), (.int (115 : Int32)), (.int (97 : Int32)), (.int (103 : Int32)), (.int (101 : Int32)), (.int (58 : Int32)), (.int (32 : Int32))] (.int (0 : Int32))) :
    MetFree l y_56 (head1 (Jvm.Cond.code y_56 k56 7 (some .boolean) :: ws) r_ok2) (fun aa UU => aa = #[(.ref m_), (.ref p_), (.ref u_), (.int (own_I j))] ∧ Z.Warmed39 UU.vm ∧ UU.heap = h0 ∧ Lit UU "com/example/kwerx/kwerx/cli/CommandLineUsageErrorPinLaw" 20 li) (fun _ _ _ _ _ => True) (fun _ UU oo UU' => ∃ vv LL, oo = .returned vv ∧ Q_ok2 Z m_ p_ u_ bsm ksm zsm vsm com nm fm bsp ksp zsp vsp cop np fp bsu ksu zsu vsu cou nu fu j li lb lk h0 n0 vv UU'.heap LL ∧ FrameEnd UU oo UU' LL r_ok2.cells r_ok2.slots) := by
  refine MetFree.of_bodySF (plainFor_of_name pn_5) hisR ?_
  intro p e s mt args below meth cd s₁ Bd hml0 hP hK
  obtain ⟨hA, hZ, hh, hL⟩ := hP
  have hx := Bd.exec
  have hby := Bd.bytes
  have hml : cd.maxLocals = 7 := hml0
  have hown : s.vm.findClass "com/example/kwerx/kwerx/cli/CommandLineUsageErrorPinLaw" = some mt.cls := findClass_of_methodNamed Bd.named
  have hlk : meth.locks = false := BodyLoose.notSynchronized Bd
  have hrt := Bd.returns
  have X0 : Stand p l e r_ok2 s mt args below meth cd s₁ [] 0 0 := Stand.of_body Bd
  have e0 : s₁.heap = h0 := by rw [← hh, Bd.state]; rfl
  have N0 := Fr.nil n0
  show Win p e below (Ends s (Q_ok2 Z m_ p_ u_ bsm ksm zsm vsm com nm fm bsp ksp zsp vsp cop np fp bsu ksu zsu vsu cou nu fu j li lb lk h0 n0) r_ok2.cells r_ok2.slots) s₁ (entryFrame mt args 7)
  rw [hA, ef_ok2]
  obtain ⟨cs, u, S0, hcs, S1, hu, S2, S3, S4⟩ := id ST
  have bp := Hp.1
  have bu := Hu.1
  have bm := Hm.1
  refine w_iloadN X0 hx hby d56_0 rfl ?_
  refine w_aloadN X0 hx hby d56_1 rfl rfl ?_
  show Win _ _ _ _ s₁ (mkF mt 2 #[.val (.ref m_), .val (.ref p_), .val (.ref u_), .val (.int (own_I j)), .unset, .unset, .unset] [(.ref m_), (.int (own_I j))])
  obtain ⟨cq809, kq809, q809a, q809b, q809c⟩ := isOf hZ e0 Em
  obtain ⟨v809, _, ⟨T809, L809, k809, n809⟩, -, X809, ⟨Lc809, hQ809, l809, rfl, rfl⟩, st809⟩ := X0.virtualBack hx (y := y_3) (z := y_3) hown (mvT hZ (ow hw 203 rfl)) (mvT hZ (ow hw 62 rfl)) (notFace_of_selects (args := #[]) (mvT hZ (ow hw 64 rfl))) (mvT hZ (ow hw 64 rfl)) (mvT hZ (ow hw 63 rfl)) (by decide) (backOf (W := 1) (rm_slen l Z a0 hw [] m_ bsm ksm zsm vsm com nm fm h0 n0 Z0 Em Fvm Fcm Vm Hm ST O) hZ (ow hw 65 rfl) (ow hw 6 rfl) (by decide) (by decide)) q809a q809c (g := (mkF mt 2 #[.val (.ref m_), .val (.ref p_), .val (.ref u_), .val (.int (own_I j)), .unset, .unset, .unset] [(.ref m_), (.int (own_I j))])) rfl (by rw [hml]; rfl) (Steps.refl _) (argsL := []) (rest := [(.int (own_I j))]) (lenOf pd_27 rfl) rfl (wz rfl) (hb hby d56_2) (fun _ _ => ⟨rfl, e0, (by decide : 0 + 0 ≤ _), (by decide : 0 + 0 ≤ _)⟩)
  replace X809 : Stand p l e _ s mt args below meth cd T809 L809 0 0 := X809
  obtain ⟨rfl, Nq809, eh809⟩ := hQ809
  have N809 := own_fr (L := L809) l809 N0 Nq809
  refine Win.tr ?_ st809
  show Win _ _ _ _ T809 (mkF mt 5 #[.val (.ref m_), .val (.ref p_), .val (.ref u_), .val (.int (own_I j)), .unset, .unset, .unset] [(.int (own_I nm)), (.int (own_I j))])
  by_cases hc5 : (own_I j) < (own_I nm)
  · refine Win.st ?_ (fun tq kq => XS.icmpYes X809.here hx rfl (pc0 := 5) (pc' := 10) rfl (hb hby d56_5) rfl (tlt hc5).1 (by decide) (by decide) kq)
    show Win _ _ _ _ T809 (mkF mt 10 #[.val (.ref m_), .val (.ref p_), .val (.ref u_), .val (.int (own_I j)), .unset, .unset, .unset] [])
    have k5 : j < nm := own_I_of_lt hc5 (by omega) (by omega)
    refine Win.st ?_ (ldcAgain (s := s) (vm0 := s.vm) X809 hx hZ hown (ow hw 207 rfl) hL (g := (mkF mt 10 #[.val (.ref m_), .val (.ref p_), .val (.ref u_), .val (.int (own_I j)), .unset, .unset, .unset] [])) rfl (hb hby d56_10))
    show Win _ _ _ _ T809 (mkF mt 12 #[.val (.ref m_), .val (.ref p_), .val (.ref u_), .val (.int (own_I j)), .unset, .unset, .unset] [(.ref li)])
    refine Win.st ?_ (fun tq kq => XS.astore X809.here hx rfl (hb hby d56_12) rfl rfl (l' := #[.val (.ref m_), .val (.ref p_), .val (.ref u_), .val (.int (own_I j)), .val (.ref li), .unset, .unset]) rfl kq)
    refine w_aloadN X809 hx hby d56_14 rfl rfl ?_
    show Win _ _ _ _ T809 (mkF mt 15 #[.val (.ref m_), .val (.ref p_), .val (.ref u_), .val (.int (own_I j)), .val (.ref li), .unset, .unset] [(.ref p_)])
    obtain ⟨cq810, kq810, q810a, q810b, q810c⟩ := isOf hZ eh809 Ep
    obtain ⟨v810, _, ⟨T810, L810, k810, n810⟩, -, X810, ⟨Lc810, hQ810, l810, rfl, rfl⟩, st810⟩ := X809.virtualBack hx (y := y_3) (z := y_3) hown (mvT hZ (ow hw 203 rfl)) (mvT hZ (ow hw 62 rfl)) (notFace_of_selects (args := #[]) (mvT hZ (ow hw 64 rfl))) (mvT hZ (ow hw 64 rfl)) (mvT hZ (ow hw 63 rfl)) (by decide) (backOf (W := 0) (rm_slen l Z a0 hw [] p_ bsp ksp zsp vsp cop np fp h0 n0 Z0 Ep Fvp Fcp Vp Hp ST O) hZ (ow hw 65 rfl) (ow hw 6 rfl) (by decide) (by decide)) q810a q810c (g := (mkF mt 15 #[.val (.ref m_), .val (.ref p_), .val (.ref u_), .val (.int (own_I j)), .val (.ref li), .unset, .unset] [(.ref p_)])) rfl (by rw [hml]; rfl) (Steps.refl _) (argsL := []) (rest := []) (lenOf pd_27 rfl) rfl (wz rfl) (hb hby d56_15) (fun _ _ => ⟨rfl, eh809, (by decide : 0 + 0 ≤ _), (by decide : 0 + 0 ≤ _)⟩)
    replace X810 : Stand p l e _ s mt args below meth cd T810 L810 0 0 := X810
    obtain ⟨rfl, Nq810, eh810⟩ := hQ810
    have N810 := own_fr (L := L810) l810 N809 Nq810
    refine Win.tr ?_ st810
    show Win _ _ _ _ T810 (mkF mt 18 #[.val (.ref m_), .val (.ref p_), .val (.ref u_), .val (.int (own_I j)), .val (.ref li), .unset, .unset] [(.int (own_I np))])
    refine Win.st ?_ (fun tq kq => XS.istore X810.here hx rfl (hb hby d56_18) rfl (l' := #[.val (.ref m_), .val (.ref p_), .val (.ref u_), .val (.int (own_I j)), .val (.ref li), .val (.int (own_I np)), .unset]) rfl kq)
    refine w_iloadN X810 hx hby d56_20 rfl ?_
    refine w_iload X810 hx hby d56_21 rfl ?_
    by_cases hc23 : (own_I j) < (own_I np)
    · refine Win.st ?_ (fun tq kq => XS.icmpNo X810.here hx rfl (hb hby d56_23) rfl (tlt hc23).2.1 kq)
      show Win _ _ _ _ T810 (mkF mt 26 #[.val (.ref m_), .val (.ref p_), .val (.ref u_), .val (.int (own_I j)), .val (.ref li), .val (.int (own_I np)), .unset] [])
      have k23 : j < np := own_I_of_lt hc23 (by omega) (by omega)
      refine w_aloadN X810 hx hby d56_26 rfl rfl ?_
      refine w_iloadN X810 hx hby d56_27 rfl ?_
      show Win _ _ _ _ T810 (mkF mt 28 #[.val (.ref m_), .val (.ref p_), .val (.ref u_), .val (.int (own_I j)), .val (.ref li), .val (.int (own_I np)), .unset] [(.int (own_I j)), (.ref p_)])
      obtain ⟨cq811, kq811, q811a, q811b, q811c⟩ := isOf hZ eh810 Ep
      obtain ⟨v811, _, ⟨T811, L811, k811, n811⟩, -, X811, ⟨Lc811, hQ811, l811, rfl, rfl⟩, st811⟩ := X810.virtualBack hx (y := y_15) (z := y_15) hown (mvT hZ (ow hw 208 rfl)) (mvT hZ (ow hw 209 rfl)) (notFace_of_selects (args := #[]) (mvT hZ (ow hw 211 rfl))) (mvT hZ (ow hw 211 rfl)) (mvT hZ (ow hw 210 rfl)) (by decide) (backOf (W := 0) (rm_sch l Z a0 hw [] p_ bsp ksp zsp vsp cop np fp j h0 n0 Z0 Ep Fvp Fcp Vp Hp k23 ST O) hZ (ow hw 212 rfl) (ow hw 6 rfl) (by decide) (by decide)) q811a q811c (g := (mkF mt 28 #[.val (.ref m_), .val (.ref p_), .val (.ref u_), .val (.int (own_I j)), .val (.ref li), .val (.int (own_I np)), .unset] [(.int (own_I j)), (.ref p_)])) rfl (by rw [hml]; rfl) (Steps.refl _) (argsL := [(.int (own_I j))]) (rest := []) (lenOf pd_37 rfl) rfl (wz rfl) (hb hby d56_28) (fun _ _ => ⟨rfl, eh810, (by decide : 0 + 0 ≤ _), (by decide : 0 + 0 ≤ _)⟩)
      replace X811 : Stand p l e _ s mt args below meth cd T811 L811 0 0 := X811
      obtain ⟨rfl, Nq811, eh811⟩ := hQ811
      have N811 := own_fr (L := L811) l811 N810 Nq811
      refine Win.tr ?_ st811
      show Win _ _ _ _ T811 (mkF mt 31 #[.val (.ref m_), .val (.ref p_), .val (.ref u_), .val (.int (own_I j)), .val (.ref li), .val (.int (own_I np)), .unset] [(.int (fp j))])
      refine Win.st ?_ (fun tq kq => XS.istore X811.here hx rfl (hb hby d56_31) rfl (l' := #[.val (.ref m_), .val (.ref p_), .val (.ref u_), .val (.int (own_I j)), .val (.ref li), .val (.int (own_I np)), .val (.int (fp j))]) rfl kq)
      show Win _ _ _ _ T811 (mkF mt 33 #[.val (.ref m_), .val (.ref p_), .val (.ref u_), .val (.int (own_I j)), .val (.ref li), .val (.int (own_I np)), .val (.int (fp j))] [])
      refine Win.st ?_ (fun tq kq => XS.goto X811.here hx rfl (pc0 := 33) (pc' := 93) rfl (hb hby d56_33) (by decide) (by decide) kq)
      refine w_aloadN X811 hx hby d56_93 rfl rfl ?_
      refine w_iloadN X811 hx hby d56_94 rfl ?_
      show Win _ _ _ _ T811 (mkF mt 95 #[.val (.ref m_), .val (.ref p_), .val (.ref u_), .val (.int (own_I j)), .val (.ref li), .val (.int (own_I np)), .val (.int (fp j))] [(.int (own_I j)), (.ref m_)])
      obtain ⟨cq812, kq812, q812a, q812b, q812c⟩ := isOf hZ eh811 Em
      obtain ⟨v812, _, ⟨T812, L812, k812, n812⟩, -, X812, ⟨Lc812, hQ812, l812, rfl, rfl⟩, st812⟩ := X811.virtualBack hx (y := y_15) (z := y_15) hown (mvT hZ (ow hw 208 rfl)) (mvT hZ (ow hw 209 rfl)) (notFace_of_selects (args := #[]) (mvT hZ (ow hw 211 rfl))) (mvT hZ (ow hw 211 rfl)) (mvT hZ (ow hw 210 rfl)) (by decide) (backOf (W := 0) (rm_sch l Z a0 hw [] m_ bsm ksm zsm vsm com nm fm j h0 n0 Z0 Em Fvm Fcm Vm Hm k5 ST O) hZ (ow hw 212 rfl) (ow hw 6 rfl) (by decide) (by decide)) q812a q812c (g := (mkF mt 95 #[.val (.ref m_), .val (.ref p_), .val (.ref u_), .val (.int (own_I j)), .val (.ref li), .val (.int (own_I np)), .val (.int (fp j))] [(.int (own_I j)), (.ref m_)])) rfl (by rw [hml]; rfl) (Steps.refl _) (argsL := [(.int (own_I j))]) (rest := []) (lenOf pd_37 rfl) rfl (wz rfl) (hb hby d56_95) (fun _ _ => ⟨rfl, eh811, (by decide : 0 + 0 ≤ _), (by decide : 0 + 0 ≤ _)⟩)
      replace X812 : Stand p l e _ s mt args below meth cd T812 L812 0 0 := X812
      obtain ⟨rfl, Nq812, eh812⟩ := hQ812
      have N812 := own_fr (L := L812) l812 N811 Nq812
      refine Win.tr ?_ st812
      refine w_iload X812 hx hby d56_98 rfl ?_
      refine Win.st ?_ (fun tq kq => XS.icmpNo X812.here hx rfl (hb hby d56_100) rfl (teq (HM.1 j k23)).2 kq)
      refine w_iconst X812 hx hby d56_103 ?_
      show Win _ _ _ _ T812 (mkF mt 104 #[.val (.ref m_), .val (.ref p_), .val (.ref u_), .val (.int (own_I j)), .val (.ref li), .val (.int (own_I np)), .val (.int (fp j))] [(.int (1 : Int32))])
      refine Win.st ?_ (fun tq kq => XS.goto X812.here hx rfl (pc0 := 104) (pc' := 108) rfl (hb hby d56_104) (by decide) (by decide) kq)
      show Win _ _ _ _ T812 (mkF mt 108 #[.val (.ref m_), .val (.ref p_), .val (.ref u_), .val (.int (own_I j)), .val (.ref li), .val (.int (own_I np)), .val (.int (fp j))] [(.int (1 : Int32))])
      exact Win.retN X812 hx hlk eh812 (t := .boolean) (z' := (1 : Int32)) hrt (by simp) (hb hby d56_108) (by decide) (by decide) rfl ⟨rfl, N812, rfl⟩
    · refine Win.st ?_ (fun tq kq => XS.icmpYes X810.here hx rfl (pc0 := 23) (pc' := 36) rfl (hb hby d56_23) rfl (flt hc23).2.1 (by decide) (by decide) kq)
      show Win _ _ _ _ T810 (mkF mt 36 #[.val (.ref m_), .val (.ref p_), .val (.ref u_), .val (.int (own_I j)), .val (.ref li), .val (.int (own_I np)), .unset] [])
      have k23 : np ≤ j := own_I_of_nlt hc23 (by omega) (by omega)
      refine w_iloadN X810 hx hby d56_36 rfl ?_
      refine w_iload X810 hx hby d56_37 rfl ?_
      refine w_bipush X810 hx hby d56_39 ?_
      refine Win.st ?_ (fun tq kq => XS.iadd X810.here hx rfl (hb hby d56_41) rfl kq)
      show Win _ _ _ _ T810 (mkF mt 42 #[.val (.ref m_), .val (.ref p_), .val (.ref u_), .val (.int (own_I j)), .val (.ref li), .val (.int (own_I np)), .unset] [(.int ((own_I np) + (9 : Int32))), (.int (own_I j))])
      rw [own_I_add9 np]
      show Win _ _ _ _ T810 (mkF mt 42 #[.val (.ref m_), .val (.ref p_), .val (.ref u_), .val (.int (own_I j)), .val (.ref li), .val (.int (own_I np)), .unset] [(.int (own_I (np + 9))), (.int (own_I j))])
      by_cases hc42 : (own_I j) < (own_I (np + 9))
      · refine Win.st ?_ (fun tq kq => XS.icmpNo X810.here hx rfl (hb hby d56_42) rfl (tlt hc42).2.1 kq)
        show Win _ _ _ _ T810 (mkF mt 45 #[.val (.ref m_), .val (.ref p_), .val (.ref u_), .val (.int (own_I j)), .val (.ref li), .val (.int (own_I np)), .unset] [])
        have k42 : j < np + 9 := own_I_of_lt hc42 (by omega) (by omega)
        refine w_aload X810 hx hby d56_45 rfl rfl ?_
        refine w_iloadN X810 hx hby d56_47 rfl ?_
        refine w_iload X810 hx hby d56_48 rfl ?_
        refine Win.st ?_ (fun tq kq => XS.isub X810.here hx rfl (hb hby d56_50) rfl kq)
        show Win _ _ _ _ T810 (mkF mt 51 #[.val (.ref m_), .val (.ref p_), .val (.ref u_), .val (.int (own_I j)), .val (.ref li), .val (.int (own_I np)), .unset] [(.int ((own_I j) - (own_I np))), (.ref li)])
        rw [own_I_sub k23]
        show Win _ _ _ _ T810 (mkF mt 51 #[.val (.ref m_), .val (.ref p_), .val (.ref u_), .val (.int (own_I j)), .val (.ref li), .val (.int (own_I np)), .unset] [(.int (own_I (j - np))), (.ref li)])
        obtain ⟨cq813, kq813, q813a, q813b, q813c⟩ := isOf hZ eh810 El
        obtain ⟨v813, _, ⟨T813, L813, k813, n813⟩, -, X813, ⟨Lc813, hQ813, l813, rfl, rfl⟩, st813⟩ := X810.virtualBack hx (y := y_15) (z := y_15) hown (mvT hZ (ow hw 208 rfl)) (mvT hZ (ow hw 209 rfl)) (notFace_of_selects (args := #[]) (mvT hZ (ow hw 211 rfl))) (mvT hZ (ow hw 211 rfl)) (mvT hZ (ow hw 210 rfl)) (by decide) (backOf (W := 0) (rm_sch l Z a0 hw [] li lb lk (9 : Int32) [(.int (32 : Int32)), (.int (40 : Int32)), (.int (117 : Int32)), (.int (115 : Int32)), (.int (97 : Int32)), (.int (103 : Int32)), (.int (101 : Int32)), (.int (58 : Int32)), (.int (32 : Int32))] (0 : Int32) 9 own_lu (j - np) h0 n0 Z0 El Fvl Fcl Vl own_S_lu (by omega) ST O) hZ (ow hw 212 rfl) (ow hw 6 rfl) (by decide) (by decide)) q813a q813c (g := (mkF mt 51 #[.val (.ref m_), .val (.ref p_), .val (.ref u_), .val (.int (own_I j)), .val (.ref li), .val (.int (own_I np)), .unset] [(.int (own_I (j - np))), (.ref li)])) rfl (by rw [hml]; rfl) (Steps.refl _) (argsL := [(.int (own_I (j - np)))]) (rest := []) (lenOf pd_37 rfl) rfl (wz rfl) (hb hby d56_51) (fun _ _ => ⟨rfl, eh810, (by decide : 0 + 0 ≤ _), (by decide : 0 + 0 ≤ _)⟩)
        replace X813 : Stand p l e _ s mt args below meth cd T813 L813 0 0 := X813
        obtain ⟨rfl, Nq813, eh813⟩ := hQ813
        have N813 := own_fr (L := L813) l813 N810 Nq813
        refine Win.tr ?_ st813
        show Win _ _ _ _ T813 (mkF mt 54 #[.val (.ref m_), .val (.ref p_), .val (.ref u_), .val (.int (own_I j)), .val (.ref li), .val (.int (own_I np)), .unset] [(.int (own_lu (j - np)))])
        refine Win.st ?_ (fun tq kq => XS.istore X813.here hx rfl (hb hby d56_54) rfl (l' := #[.val (.ref m_), .val (.ref p_), .val (.ref u_), .val (.int (own_I j)), .val (.ref li), .val (.int (own_I np)), .val (.int (own_lu (j - np)))]) rfl kq)
        show Win _ _ _ _ T813 (mkF mt 56 #[.val (.ref m_), .val (.ref p_), .val (.ref u_), .val (.int (own_I j)), .val (.ref li), .val (.int (own_I np)), .val (.int (own_lu (j - np)))] [])
        refine Win.st ?_ (fun tq kq => XS.goto X813.here hx rfl (pc0 := 56) (pc' := 93) rfl (hb hby d56_56) (by decide) (by decide) kq)
        refine w_aloadN X813 hx hby d56_93 rfl rfl ?_
        refine w_iloadN X813 hx hby d56_94 rfl ?_
        show Win _ _ _ _ T813 (mkF mt 95 #[.val (.ref m_), .val (.ref p_), .val (.ref u_), .val (.int (own_I j)), .val (.ref li), .val (.int (own_I np)), .val (.int (own_lu (j - np)))] [(.int (own_I j)), (.ref m_)])
        obtain ⟨cq814, kq814, q814a, q814b, q814c⟩ := isOf hZ eh813 Em
        obtain ⟨v814, _, ⟨T814, L814, k814, n814⟩, -, X814, ⟨Lc814, hQ814, l814, rfl, rfl⟩, st814⟩ := X813.virtualBack hx (y := y_15) (z := y_15) hown (mvT hZ (ow hw 208 rfl)) (mvT hZ (ow hw 209 rfl)) (notFace_of_selects (args := #[]) (mvT hZ (ow hw 211 rfl))) (mvT hZ (ow hw 211 rfl)) (mvT hZ (ow hw 210 rfl)) (by decide) (backOf (W := 0) (rm_sch l Z a0 hw [] m_ bsm ksm zsm vsm com nm fm j h0 n0 Z0 Em Fvm Fcm Vm Hm k5 ST O) hZ (ow hw 212 rfl) (ow hw 6 rfl) (by decide) (by decide)) q814a q814c (g := (mkF mt 95 #[.val (.ref m_), .val (.ref p_), .val (.ref u_), .val (.int (own_I j)), .val (.ref li), .val (.int (own_I np)), .val (.int (own_lu (j - np)))] [(.int (own_I j)), (.ref m_)])) rfl (by rw [hml]; rfl) (Steps.refl _) (argsL := [(.int (own_I j))]) (rest := []) (lenOf pd_37 rfl) rfl (wz rfl) (hb hby d56_95) (fun _ _ => ⟨rfl, eh813, (by decide : 0 + 0 ≤ _), (by decide : 0 + 0 ≤ _)⟩)
        replace X814 : Stand p l e _ s mt args below meth cd T814 L814 0 0 := X814
        obtain ⟨rfl, Nq814, eh814⟩ := hQ814
        have N814 := own_fr (L := L814) l814 N813 Nq814
        refine Win.tr ?_ st814
        refine w_iload X814 hx hby d56_98 rfl ?_
        refine Win.st ?_ (fun tq kq => XS.icmpNo X814.here hx rfl (hb hby d56_100) rfl (teq (own_M1 HM k23 k42)).2 kq)
        refine w_iconst X814 hx hby d56_103 ?_
        show Win _ _ _ _ T814 (mkF mt 104 #[.val (.ref m_), .val (.ref p_), .val (.ref u_), .val (.int (own_I j)), .val (.ref li), .val (.int (own_I np)), .val (.int (own_lu (j - np)))] [(.int (1 : Int32))])
        refine Win.st ?_ (fun tq kq => XS.goto X814.here hx rfl (pc0 := 104) (pc' := 108) rfl (hb hby d56_104) (by decide) (by decide) kq)
        show Win _ _ _ _ T814 (mkF mt 108 #[.val (.ref m_), .val (.ref p_), .val (.ref u_), .val (.int (own_I j)), .val (.ref li), .val (.int (own_I np)), .val (.int (own_lu (j - np)))] [(.int (1 : Int32))])
        exact Win.retN X814 hx hlk eh814 (t := .boolean) (z' := (1 : Int32)) hrt (by simp) (hb hby d56_108) (by decide) (by decide) rfl ⟨rfl, N814, rfl⟩
      · refine Win.st ?_ (fun tq kq => XS.icmpYes X810.here hx rfl (pc0 := 42) (pc' := 59) rfl (hb hby d56_42) rfl (flt hc42).2.1 (by decide) (by decide) kq)
        show Win _ _ _ _ T810 (mkF mt 59 #[.val (.ref m_), .val (.ref p_), .val (.ref u_), .val (.int (own_I j)), .val (.ref li), .val (.int (own_I np)), .unset] [])
        have k42 : np + 9 ≤ j := own_I_of_nlt hc42 (by omega) (by omega)
        refine w_iloadN X810 hx hby d56_59 rfl ?_
        refine w_iload X810 hx hby d56_60 rfl ?_
        refine w_bipush X810 hx hby d56_62 ?_
        refine Win.st ?_ (fun tq kq => XS.iadd X810.here hx rfl (hb hby d56_64) rfl kq)
        show Win _ _ _ _ T810 (mkF mt 65 #[.val (.ref m_), .val (.ref p_), .val (.ref u_), .val (.int (own_I j)), .val (.ref li), .val (.int (own_I np)), .unset] [(.int ((own_I np) + (9 : Int32))), (.int (own_I j))])
        rw [own_I_add9 np]
        show Win _ _ _ _ T810 (mkF mt 65 #[.val (.ref m_), .val (.ref p_), .val (.ref u_), .val (.int (own_I j)), .val (.ref li), .val (.int (own_I np)), .unset] [(.int (own_I (np + 9))), (.int (own_I j))])
        refine w_aloadN X810 hx hby d56_65 rfl rfl ?_
        show Win _ _ _ _ T810 (mkF mt 66 #[.val (.ref m_), .val (.ref p_), .val (.ref u_), .val (.int (own_I j)), .val (.ref li), .val (.int (own_I np)), .unset] [(.ref u_), (.int (own_I (np + 9))), (.int (own_I j))])
        obtain ⟨cq815, kq815, q815a, q815b, q815c⟩ := isOf hZ eh810 Eu
        obtain ⟨v815, _, ⟨T815, L815, k815, n815⟩, -, X815, ⟨Lc815, hQ815, l815, rfl, rfl⟩, st815⟩ := X810.virtualBack hx (y := y_3) (z := y_3) hown (mvT hZ (ow hw 203 rfl)) (mvT hZ (ow hw 62 rfl)) (notFace_of_selects (args := #[]) (mvT hZ (ow hw 64 rfl))) (mvT hZ (ow hw 64 rfl)) (mvT hZ (ow hw 63 rfl)) (by decide) (backOf (W := 2) (rm_slen l Z a0 hw [] u_ bsu ksu zsu vsu cou nu fu h0 n0 Z0 Eu Fvu Fcu Vu Hu ST O) hZ (ow hw 65 rfl) (ow hw 6 rfl) (by decide) (by decide)) q815a q815c (g := (mkF mt 66 #[.val (.ref m_), .val (.ref p_), .val (.ref u_), .val (.int (own_I j)), .val (.ref li), .val (.int (own_I np)), .unset] [(.ref u_), (.int (own_I (np + 9))), (.int (own_I j))])) rfl (by rw [hml]; rfl) (Steps.refl _) (argsL := []) (rest := [(.int (own_I (np + 9))), (.int (own_I j))]) (lenOf pd_27 rfl) rfl (wz rfl) (hb hby d56_66) (fun _ _ => ⟨rfl, eh810, (by decide : 0 + 0 ≤ _), (by decide : 0 + 0 ≤ _)⟩)
        replace X815 : Stand p l e _ s mt args below meth cd T815 L815 0 0 := X815
        obtain ⟨rfl, Nq815, eh815⟩ := hQ815
        have N815 := own_fr (L := L815) l815 N810 Nq815
        refine Win.tr ?_ st815
        show Win _ _ _ _ T815 (mkF mt 69 #[.val (.ref m_), .val (.ref p_), .val (.ref u_), .val (.int (own_I j)), .val (.ref li), .val (.int (own_I np)), .unset] [(.int (own_I nu)), (.int (own_I (np + 9))), (.int (own_I j))])
        refine Win.st ?_ (fun tq kq => XS.iadd X815.here hx rfl (hb hby d56_69) rfl kq)
        show Win _ _ _ _ T815 (mkF mt 70 #[.val (.ref m_), .val (.ref p_), .val (.ref u_), .val (.int (own_I j)), .val (.ref li), .val (.int (own_I np)), .unset] [(.int ((own_I (np + 9)) + (own_I nu))), (.int (own_I j))])
        rw [own_I_add (np + 9) nu]
        show Win _ _ _ _ T815 (mkF mt 70 #[.val (.ref m_), .val (.ref p_), .val (.ref u_), .val (.int (own_I j)), .val (.ref li), .val (.int (own_I np)), .unset] [(.int (own_I (np + 9 + nu))), (.int (own_I j))])
        by_cases hc70 : (own_I j) < (own_I (np + 9 + nu))
        · refine Win.st ?_ (fun tq kq => XS.icmpNo X815.here hx rfl (hb hby d56_70) rfl (tlt hc70).2.1 kq)
          show Win _ _ _ _ T815 (mkF mt 73 #[.val (.ref m_), .val (.ref p_), .val (.ref u_), .val (.int (own_I j)), .val (.ref li), .val (.int (own_I np)), .unset] [])
          have k70 : j < np + 9 + nu := own_I_of_lt hc70 (by omega) (by omega)
          refine w_aloadN X815 hx hby d56_73 rfl rfl ?_
          refine w_iloadN X815 hx hby d56_74 rfl ?_
          refine w_iload X815 hx hby d56_75 rfl ?_
          refine Win.st ?_ (fun tq kq => XS.isub X815.here hx rfl (hb hby d56_77) rfl kq)
          show Win _ _ _ _ T815 (mkF mt 78 #[.val (.ref m_), .val (.ref p_), .val (.ref u_), .val (.int (own_I j)), .val (.ref li), .val (.int (own_I np)), .unset] [(.int ((own_I j) - (own_I np))), (.ref u_)])
          rw [own_I_sub k23]
          show Win _ _ _ _ T815 (mkF mt 78 #[.val (.ref m_), .val (.ref p_), .val (.ref u_), .val (.int (own_I j)), .val (.ref li), .val (.int (own_I np)), .unset] [(.int (own_I (j - np))), (.ref u_)])
          refine w_bipush X815 hx hby d56_78 ?_
          refine Win.st ?_ (fun tq kq => XS.isub X815.here hx rfl (hb hby d56_80) rfl kq)
          show Win _ _ _ _ T815 (mkF mt 81 #[.val (.ref m_), .val (.ref p_), .val (.ref u_), .val (.int (own_I j)), .val (.ref li), .val (.int (own_I np)), .unset] [(.int ((own_I (j - np)) - (9 : Int32))), (.ref u_)])
          rw [own_I_sub9 (n := j - np) (by omega)]
          show Win _ _ _ _ T815 (mkF mt 81 #[.val (.ref m_), .val (.ref p_), .val (.ref u_), .val (.int (own_I j)), .val (.ref li), .val (.int (own_I np)), .unset] [(.int (own_I (j - np - 9))), (.ref u_)])
          obtain ⟨cq816, kq816, q816a, q816b, q816c⟩ := isOf hZ eh815 Eu
          obtain ⟨v816, _, ⟨T816, L816, k816, n816⟩, -, X816, ⟨Lc816, hQ816, l816, rfl, rfl⟩, st816⟩ := X815.virtualBack hx (y := y_15) (z := y_15) hown (mvT hZ (ow hw 208 rfl)) (mvT hZ (ow hw 209 rfl)) (notFace_of_selects (args := #[]) (mvT hZ (ow hw 211 rfl))) (mvT hZ (ow hw 211 rfl)) (mvT hZ (ow hw 210 rfl)) (by decide) (backOf (W := 0) (rm_sch l Z a0 hw [] u_ bsu ksu zsu vsu cou nu fu (j - np - 9) h0 n0 Z0 Eu Fvu Fcu Vu Hu (by omega) ST O) hZ (ow hw 212 rfl) (ow hw 6 rfl) (by decide) (by decide)) q816a q816c (g := (mkF mt 81 #[.val (.ref m_), .val (.ref p_), .val (.ref u_), .val (.int (own_I j)), .val (.ref li), .val (.int (own_I np)), .unset] [(.int (own_I (j - np - 9))), (.ref u_)])) rfl (by rw [hml]; rfl) (Steps.refl _) (argsL := [(.int (own_I (j - np - 9)))]) (rest := []) (lenOf pd_37 rfl) rfl (wz rfl) (hb hby d56_81) (fun _ _ => ⟨rfl, eh815, (by decide : 0 + 0 ≤ _), (by decide : 0 + 0 ≤ _)⟩)
          replace X816 : Stand p l e _ s mt args below meth cd T816 L816 0 0 := X816
          obtain ⟨rfl, Nq816, eh816⟩ := hQ816
          have N816 := own_fr (L := L816) l816 N815 Nq816
          refine Win.tr ?_ st816
          show Win _ _ _ _ T816 (mkF mt 84 #[.val (.ref m_), .val (.ref p_), .val (.ref u_), .val (.int (own_I j)), .val (.ref li), .val (.int (own_I np)), .unset] [(.int (fu (j - np - 9)))])
          refine Win.st ?_ (fun tq kq => XS.istore X816.here hx rfl (hb hby d56_84) rfl (l' := #[.val (.ref m_), .val (.ref p_), .val (.ref u_), .val (.int (own_I j)), .val (.ref li), .val (.int (own_I np)), .val (.int (fu (j - np - 9)))]) rfl kq)
          show Win _ _ _ _ T816 (mkF mt 86 #[.val (.ref m_), .val (.ref p_), .val (.ref u_), .val (.int (own_I j)), .val (.ref li), .val (.int (own_I np)), .val (.int (fu (j - np - 9)))] [])
          refine Win.st ?_ (fun tq kq => XS.goto X816.here hx rfl (pc0 := 86) (pc' := 93) rfl (hb hby d56_86) (by decide) (by decide) kq)
          refine w_aloadN X816 hx hby d56_93 rfl rfl ?_
          refine w_iloadN X816 hx hby d56_94 rfl ?_
          show Win _ _ _ _ T816 (mkF mt 95 #[.val (.ref m_), .val (.ref p_), .val (.ref u_), .val (.int (own_I j)), .val (.ref li), .val (.int (own_I np)), .val (.int (fu (j - np - 9)))] [(.int (own_I j)), (.ref m_)])
          obtain ⟨cq817, kq817, q817a, q817b, q817c⟩ := isOf hZ eh816 Em
          obtain ⟨v817, _, ⟨T817, L817, k817, n817⟩, -, X817, ⟨Lc817, hQ817, l817, rfl, rfl⟩, st817⟩ := X816.virtualBack hx (y := y_15) (z := y_15) hown (mvT hZ (ow hw 208 rfl)) (mvT hZ (ow hw 209 rfl)) (notFace_of_selects (args := #[]) (mvT hZ (ow hw 211 rfl))) (mvT hZ (ow hw 211 rfl)) (mvT hZ (ow hw 210 rfl)) (by decide) (backOf (W := 0) (rm_sch l Z a0 hw [] m_ bsm ksm zsm vsm com nm fm j h0 n0 Z0 Em Fvm Fcm Vm Hm k5 ST O) hZ (ow hw 212 rfl) (ow hw 6 rfl) (by decide) (by decide)) q817a q817c (g := (mkF mt 95 #[.val (.ref m_), .val (.ref p_), .val (.ref u_), .val (.int (own_I j)), .val (.ref li), .val (.int (own_I np)), .val (.int (fu (j - np - 9)))] [(.int (own_I j)), (.ref m_)])) rfl (by rw [hml]; rfl) (Steps.refl _) (argsL := [(.int (own_I j))]) (rest := []) (lenOf pd_37 rfl) rfl (wz rfl) (hb hby d56_95) (fun _ _ => ⟨rfl, eh816, (by decide : 0 + 0 ≤ _), (by decide : 0 + 0 ≤ _)⟩)
          replace X817 : Stand p l e _ s mt args below meth cd T817 L817 0 0 := X817
          obtain ⟨rfl, Nq817, eh817⟩ := hQ817
          have N817 := own_fr (L := L817) l817 N816 Nq817
          refine Win.tr ?_ st817
          refine w_iload X817 hx hby d56_98 rfl ?_
          refine Win.st ?_ (fun tq kq => XS.icmpNo X817.here hx rfl (hb hby d56_100) rfl (teq (own_M2 HM k42 k70)).2 kq)
          refine w_iconst X817 hx hby d56_103 ?_
          show Win _ _ _ _ T817 (mkF mt 104 #[.val (.ref m_), .val (.ref p_), .val (.ref u_), .val (.int (own_I j)), .val (.ref li), .val (.int (own_I np)), .val (.int (fu (j - np - 9)))] [(.int (1 : Int32))])
          refine Win.st ?_ (fun tq kq => XS.goto X817.here hx rfl (pc0 := 104) (pc' := 108) rfl (hb hby d56_104) (by decide) (by decide) kq)
          show Win _ _ _ _ T817 (mkF mt 108 #[.val (.ref m_), .val (.ref p_), .val (.ref u_), .val (.int (own_I j)), .val (.ref li), .val (.int (own_I np)), .val (.int (fu (j - np - 9)))] [(.int (1 : Int32))])
          exact Win.retN X817 hx hlk eh817 (t := .boolean) (z' := (1 : Int32)) hrt (by simp) (hb hby d56_108) (by decide) (by decide) rfl ⟨rfl, N817, rfl⟩
        · refine Win.st ?_ (fun tq kq => XS.icmpYes X815.here hx rfl (pc0 := 70) (pc' := 89) rfl (hb hby d56_70) rfl (flt hc70).2.1 (by decide) (by decide) kq)
          show Win _ _ _ _ T815 (mkF mt 89 #[.val (.ref m_), .val (.ref p_), .val (.ref u_), .val (.int (own_I j)), .val (.ref li), .val (.int (own_I np)), .unset] [])
          have k70 : np + 9 + nu ≤ j := own_I_of_nlt hc70 (by omega) (by omega)
          refine w_bipush X815 hx hby d56_89 ?_
          refine Win.st ?_ (fun tq kq => XS.istore X815.here hx rfl (hb hby d56_91) rfl (l' := #[.val (.ref m_), .val (.ref p_), .val (.ref u_), .val (.int (own_I j)), .val (.ref li), .val (.int (own_I np)), .val (.int (41 : Int32))]) rfl kq)
          refine w_aloadN X815 hx hby d56_93 rfl rfl ?_
          refine w_iloadN X815 hx hby d56_94 rfl ?_
          show Win _ _ _ _ T815 (mkF mt 95 #[.val (.ref m_), .val (.ref p_), .val (.ref u_), .val (.int (own_I j)), .val (.ref li), .val (.int (own_I np)), .val (.int (41 : Int32))] [(.int (own_I j)), (.ref m_)])
          obtain ⟨cq818, kq818, q818a, q818b, q818c⟩ := isOf hZ eh815 Em
          obtain ⟨v818, _, ⟨T818, L818, k818, n818⟩, -, X818, ⟨Lc818, hQ818, l818, rfl, rfl⟩, st818⟩ := X815.virtualBack hx (y := y_15) (z := y_15) hown (mvT hZ (ow hw 208 rfl)) (mvT hZ (ow hw 209 rfl)) (notFace_of_selects (args := #[]) (mvT hZ (ow hw 211 rfl))) (mvT hZ (ow hw 211 rfl)) (mvT hZ (ow hw 210 rfl)) (by decide) (backOf (W := 0) (rm_sch l Z a0 hw [] m_ bsm ksm zsm vsm com nm fm j h0 n0 Z0 Em Fvm Fcm Vm Hm k5 ST O) hZ (ow hw 212 rfl) (ow hw 6 rfl) (by decide) (by decide)) q818a q818c (g := (mkF mt 95 #[.val (.ref m_), .val (.ref p_), .val (.ref u_), .val (.int (own_I j)), .val (.ref li), .val (.int (own_I np)), .val (.int (41 : Int32))] [(.int (own_I j)), (.ref m_)])) rfl (by rw [hml]; rfl) (Steps.refl _) (argsL := [(.int (own_I j))]) (rest := []) (lenOf pd_37 rfl) rfl (wz rfl) (hb hby d56_95) (fun _ _ => ⟨rfl, eh815, (by decide : 0 + 0 ≤ _), (by decide : 0 + 0 ≤ _)⟩)
          replace X818 : Stand p l e _ s mt args below meth cd T818 L818 0 0 := X818
          obtain ⟨rfl, Nq818, eh818⟩ := hQ818
          have N818 := own_fr (L := L818) l818 N815 Nq818
          refine Win.tr ?_ st818
          refine w_iload X818 hx hby d56_98 rfl ?_
          refine Win.st ?_ (fun tq kq => XS.icmpNo X818.here hx rfl (hb hby d56_100) rfl (teq (own_M3 HM k70 (by omega))).2 kq)
          refine w_iconst X818 hx hby d56_103 ?_
          show Win _ _ _ _ T818 (mkF mt 104 #[.val (.ref m_), .val (.ref p_), .val (.ref u_), .val (.int (own_I j)), .val (.ref li), .val (.int (own_I np)), .val (.int (41 : Int32))] [(.int (1 : Int32))])
          refine Win.st ?_ (fun tq kq => XS.goto X818.here hx rfl (pc0 := 104) (pc' := 108) rfl (hb hby d56_104) (by decide) (by decide) kq)
          show Win _ _ _ _ T818 (mkF mt 108 #[.val (.ref m_), .val (.ref p_), .val (.ref u_), .val (.int (own_I j)), .val (.ref li), .val (.int (own_I np)), .val (.int (41 : Int32))] [(.int (1 : Int32))])
          exact Win.retN X818 hx hlk eh818 (t := .boolean) (z' := (1 : Int32)) hrt (by simp) (hb hby d56_108) (by decide) (by decide) rfl ⟨rfl, N818, rfl⟩
  · refine Win.st ?_ (fun tq kq => XS.icmpNo X809.here hx rfl (hb hby d56_5) rfl (flt hc5).1 kq)
    refine w_iconst X809 hx hby d56_8 ?_
    show Win _ _ _ _ T809 (mkF mt 9 #[.val (.ref m_), .val (.ref p_), .val (.ref u_), .val (.int (own_I j)), .unset, .unset, .unset] [(.int (1 : Int32))])
    exact Win.retN X809 hx hlk eh809 (t := .boolean) (z' := (1 : Int32)) hrt (by simp) (hb hby d56_9) (by decide) (by decide) rfl ⟨rfl, N809, rfl⟩
theorem pd_38 : parseMethodDescriptor "(ICCC)Ljava/lang/String;" = some ⟨[.int, .char, .char, .char], some (.object "java/lang/String")⟩ := by decide +kernel
theorem pd_39 : parseMethodDescriptor "(Ljava/lang/String;Ljava/lang/String;)Lcom/example/kwerx/kwerx/InvalidInputException;" = some ⟨[(.object "java/lang/String"), (.object "java/lang/String")], some (.object "com/example/kwerx/kwerx/InvalidInputException")⟩ := by decide +kernel
abbrev y_57 : MethodName := ⟨"com/example/kwerx/kwerx/InvalidInputException", "getMessage", "()Ljava/lang/String;"⟩
theorem pd_40 : parseMethodDescriptor "(Ljava/lang/String;Ljava/lang/String;Ljava/lang/String;I)Z" = some ⟨[(.object "java/lang/String"), (.object "java/lang/String"), (.object "java/lang/String"), .int], some .boolean⟩ := by decide +kernel
theorem ef_law (mt : MethodId) (p01 : Int32) (p2 : Int32) (u01 : Int32) (u2 : Int32) (lens : Int32) : entryFrame mt #[(.int p01), (.int p2), (.int u01), (.int u2), (.int lens)] maxLocals = mkF mt 0 #[.val (.int p01), .val (.int p2), .val (.int u01), .val (.int u2), .val (.int lens), .unset, .unset, .unset, .unset, .unset, .unset] [] := by first | (simp [entryFrame, mkF, argsToLocals, Value.category, maxLocals]; done) | rfl
def Q_law (Z : State) (p01 : Int32) (p2 : Int32) (u01 : Int32) (u2 : Int32) (lens : Int32) (h0 : Heap) (n0 : Nat) (v : Option Value) (h : Heap) (L : List Loc) : Prop := v = some (.int 1) ∧ Fr n0 L
theorem rm_law (l : Launch) (Z : State) (a0 : Array Value) (hw : ∀ d ∈ tables_1, d.before a0 Z = true) (ws : List Jvm.Cond) (p01 : Int32) (p2 : Int32) (u01 : Int32) (u2 : Int32) (lens : Int32) (h0 : Heap) (n0 : Nat) (Z0 : n0 ≤ h0.size) (hlt : l.stackTraces = true) (h2r : ∀ d ∈ Jvm.RoadKit.twoRefs, d.before a0 Z = true) (ST : own_St Z) (O : Old Z n0 h0) :
    MetFree l x (head1 (Jvm.Cond.code x code maxLocals ret :: ws) room_1) (fun aa UU => aa = #[(.int p01), (.int p2), (.int u01), (.int u2), (.int lens)] ∧ Z.Warmed39 UU.vm ∧ UU.heap = h0 ∧ CHv Z own_EL UU.vm h0 ∧ ∀ x ∈ ([] : List Addr), Safe Z own_EL UU.vm h0 x) (fun _ _ _ s _ => framesKnown s = true ∧ tablesKnown s = true) (fun _ UU oo UU' => ∃ vv LL, oo = .returned vv ∧ Q_law Z p01 p2 u01 u2 lens h0 n0 vv UU'.heap LL ∧ own_RT UU.vm UU.heap UU'.vm UU'.heap ∧ ReturnedEndW UU oo UU' LL 24 3300) := by
  refine MetFree.of_bodySF (plainFor_of_name pn_5) hisR ?_
  intro p e s mt args below meth cd s₁ Bd hml0 hP hK
  obtain ⟨hA, hZ, hh, hC0, hSf⟩ := hP
  have hx := Bd.exec
  have hby := Bd.bytes
  have hml : cd.maxLocals = 11 := hml0
  have hown : s.vm.findClass "com/example/kwerx/kwerx/cli/CommandLineUsageErrorPinLaw" = some mt.cls := findClass_of_methodNamed Bd.named
  have hlk : meth.locks = false := BodyLoose.notSynchronized Bd
  have hrt := Bd.returns
  have X0 : Stand p l e room_1 s mt args below meth cd s₁ [] 0 0 := Stand.of_body Bd
  have e0 : s₁.heap = h0 := by rw [← hh, Bd.state]; rfl
  have N0 := Fr.nil n0
  have hC := CHr.refl hC0
  have hK := X0.known hK.2 hK.1
  show Win p e below (EndsX own_RT s (Q_law Z p01 p2 u01 u2 lens h0 n0) 24 3300) s₁ (entryFrame mt args maxLocals)
  rw [hA, ef_law]
  obtain ⟨cs, u, S0, hcs, S1, hu, S2, S3, S4⟩ := id ST
  refine w_iload X0 hx hby at_0 rfl ?_
  refine w_iconst X0 hx hby at_2 ?_
  refine Win.st ?_ (fun tq kq => XS.iand X0.here hx rfl (hb hby at_3) rfl kq)
  show Win _ _ _ _ s₁ (mkF mt 4 #[.val (.int p01), .val (.int p2), .val (.int u01), .val (.int u2), .val (.int lens), .unset, .unset, .unset, .unset, .unset, .unset] [(.int (lens &&& (3 : Int32)))])
  obtain ⟨pn, hq_pn⟩ : ∃ z, z = (lens &&& (3 : Int32)) := ⟨_, rfl⟩
  have hd_pn : pn = 0 ∨ pn = 1 ∨ pn = 2 ∨ pn = 3 := by rw [hq_pn]; exact own_four _
  rw [← hq_pn]
  show Win _ _ _ _ s₁ (mkF mt 4 #[.val (.int p01), .val (.int p2), .val (.int u01), .val (.int u2), .val (.int lens), .unset, .unset, .unset, .unset, .unset, .unset] [(.int pn)])
  refine Win.st ?_ (fun tq kq => XS.istore X0.here hx rfl (hb hby at_4) rfl (l' := #[.val (.int p01), .val (.int p2), .val (.int u01), .val (.int u2), .val (.int lens), .val (.int pn), .unset, .unset, .unset, .unset, .unset]) rfl kq)
  refine w_iload X0 hx hby at_6 rfl ?_
  refine w_iconst X0 hx hby at_8 ?_
  refine Win.st ?_ (fun tq kq => XS.iushr X0.here hx rfl (hb hby at_9) rfl kq)
  refine w_iconst X0 hx hby at_10 ?_
  refine Win.st ?_ (fun tq kq => XS.iand X0.here hx rfl (hb hby at_11) rfl kq)
  show Win _ _ _ _ s₁ (mkF mt 12 #[.val (.int p01), .val (.int p2), .val (.int u01), .val (.int u2), .val (.int lens), .val (.int pn), .unset, .unset, .unset, .unset, .unset] [(.int (((lens.toUInt32 >>> ((2 : Int32) &&& 31).toUInt32).toInt32) &&& (3 : Int32)))])
  obtain ⟨un, hq_un⟩ : ∃ z, z = (((lens.toUInt32 >>> ((2 : Int32) &&& 31).toUInt32).toInt32) &&& (3 : Int32)) := ⟨_, rfl⟩
  have hd_un : un = 0 ∨ un = 1 ∨ un = 2 ∨ un = 3 := by rw [hq_un]; exact own_four _
  rw [← hq_un]
  show Win _ _ _ _ s₁ (mkF mt 12 #[.val (.int p01), .val (.int p2), .val (.int u01), .val (.int u2), .val (.int lens), .val (.int pn), .unset, .unset, .unset, .unset, .unset] [(.int un)])
  refine Win.st ?_ (fun tq kq => XS.istore X0.here hx rfl (hb hby at_12) rfl (l' := #[.val (.int p01), .val (.int p2), .val (.int u01), .val (.int u2), .val (.int lens), .val (.int pn), .val (.int un), .unset, .unset, .unset, .unset]) rfl kq)
  refine w_iload X0 hx hby at_14 rfl ?_
  refine w_iloadN X0 hx hby at_16 rfl ?_
  refine Win.st ?_ (fun tq kq => XS.i2c X0.here hx rfl (hb hby at_17) rfl kq)
  refine w_iloadN X0 hx hby at_18 rfl ?_
  refine w_bipush X0 hx hby at_19 ?_
  refine Win.st ?_ (fun tq kq => XS.iushr X0.here hx rfl (hb hby at_21) rfl kq)
  show Win _ _ _ _ s₁ (mkF mt 22 #[.val (.int p01), .val (.int p2), .val (.int u01), .val (.int u2), .val (.int lens), .val (.int pn), .val (.int un), .unset, .unset, .unset, .unset] [(.int ((p01.toUInt32 >>> ((16 : Int32) &&& 31).toUInt32).toInt32)), (.int (p01.toUInt32.toUInt16.toUInt32.toInt32)), (.int pn)])
  refine Win.st ?_ (fun tq kq => XS.i2c X0.here hx rfl (hb hby at_22) rfl kq)
  refine w_iloadN X0 hx hby at_23 rfl ?_
  refine Win.st ?_ (fun tq kq => XS.i2c X0.here hx rfl (hb hby at_24) rfl kq)
  show Win _ _ _ _ s₁ (mkF mt 25 #[.val (.int p01), .val (.int p2), .val (.int u01), .val (.int u2), .val (.int lens), .val (.int pn), .val (.int un), .unset, .unset, .unset, .unset] [(.int (p2.toUInt32.toUInt16.toUInt32.toInt32)), (.int (((p01.toUInt32 >>> ((16 : Int32) &&& 31).toUInt32).toInt32).toUInt32.toUInt16.toUInt32.toInt32)), (.int (p01.toUInt32.toUInt16.toUInt32.toInt32)), (.int pn)])
  obtain ⟨cp0, hq_cp0⟩ : ∃ z, z = (p01.toUInt32.toUInt16.toUInt32.toInt32) := ⟨_, rfl⟩
  have hX_cp0 : own_C cp0 := by rw [hq_cp0]; exact own_i2cC _
  rw [← hq_cp0]
  show Win _ _ _ _ s₁ (mkF mt 25 #[.val (.int p01), .val (.int p2), .val (.int u01), .val (.int u2), .val (.int lens), .val (.int pn), .val (.int un), .unset, .unset, .unset, .unset] [(.int (p2.toUInt32.toUInt16.toUInt32.toInt32)), (.int (((p01.toUInt32 >>> ((16 : Int32) &&& 31).toUInt32).toInt32).toUInt32.toUInt16.toUInt32.toInt32)), (.int cp0), (.int pn)])
  obtain ⟨cp1, hq_cp1⟩ : ∃ z, z = (((p01.toUInt32 >>> ((16 : Int32) &&& 31).toUInt32).toInt32).toUInt32.toUInt16.toUInt32.toInt32) := ⟨_, rfl⟩
  have hX_cp1 : own_C cp1 := by rw [hq_cp1]; exact own_i2cC _
  rw [← hq_cp1]
  show Win _ _ _ _ s₁ (mkF mt 25 #[.val (.int p01), .val (.int p2), .val (.int u01), .val (.int u2), .val (.int lens), .val (.int pn), .val (.int un), .unset, .unset, .unset, .unset] [(.int (p2.toUInt32.toUInt16.toUInt32.toInt32)), (.int cp1), (.int cp0), (.int pn)])
  obtain ⟨cp2, hq_cp2⟩ : ∃ z, z = (p2.toUInt32.toUInt16.toUInt32.toInt32) := ⟨_, rfl⟩
  have hX_cp2 : own_C cp2 := by rw [hq_cp2]; exact own_i2cC _
  rw [← hq_cp2]
  show Win _ _ _ _ s₁ (mkF mt 25 #[.val (.int p01), .val (.int p2), .val (.int u01), .val (.int u2), .val (.int lens), .val (.int pn), .val (.int un), .unset, .unset, .unset, .unset] [(.int cp2), (.int cp1), (.int cp0), (.int pn)])
  obtain ⟨v819, _, ⟨T819, L819, k819, n819⟩, -, X819, hS819, hgr819, ⟨Lc819, hQ819, l819, y819, z819, hR819⟩, st819⟩ := callSS X0 hx (y := y_29) hown (mvT hZ (ow hw 0 rfl)) (mvT hZ (ow hw 1 rfl)) (mvT hZ (ow hw 2 rfl)) (mvT hZ (ow hw 3 rfl)) (by decide) (own_backX (RR := (CHr Z own_EL)) (s := s) (vm0 := s.vm) (W := 0) (rm_mk l Z a0 hw [] pn cp0 cp1 cp2 h0 n0 Z0 hd_pn hX_cp0 hX_cp1 hX_cp2 ST O) (fun _ _ _ q r => q.trans r) hZ (ow hw 3 rfl) (ow hw 2 rfl) (by decide) (by decide) (own_EW hw) hC.1 all0 hK.1 hK.2) (g := (mkF mt 25 #[.val (.int p01), .val (.int p2), .val (.int u01), .val (.int u2), .val (.int lens), .val (.int pn), .val (.int un), .unset, .unset, .unset, .unset] [(.int cp2), (.int cp1), (.int cp0), (.int pn)])) rfl (by rw [hml]; rfl) (argsL := [(.int pn), (.int cp0), (.int cp1), (.int cp2)]) (rest := []) (lenOf pd_38 rfl) rfl (wz rfl) (hb hby at_25) (fun _ _ => ⟨rfl, e0, (by decide : 0 + 4 ≤ _), (by decide : 0 + 16 ≤ _)⟩)
  dsimp only [Pt.U, Pt.locs, Pt.cells, Pt.slots] at X819 l819 y819 z819 st819 hQ819 hS819 hR819
  obtain ⟨X819, hS819, hZ819, hown819⟩ := rebS (s := s) (vm0 := s.vm) (k0 := 0) (n1 := 0) (State.WarmedH.since (State.WarmedH.refl s) 0) (Nat.le_refl 0) X819 hS819 (Nat.zero_le _) hZ hown
  subst y819 z819
  replace X819 : Stand p l e _ (s.setVm T819.vm) mt args below meth cd T819 L819 4 16 := X819
  obtain ⟨h819, e819⟩ : ∃ z, T819.heap = z := ⟨_, rfl⟩
  rw [e819] at hQ819 hR819
  have hk819 : T819.heap.size ≤ h819.size := by rw [e819]; exact Nat.le_refl _
  obtain ⟨p_, rfl, Nq819, K819, E819, np, rfl, hp3, bsp, ksp, zsp, vsp, cop, fv819, fc819, V819, Hp⟩ := hQ819
  have N819 : Fr n0 L819 := by rw [l819]; exact Fr.app N0 Nq819
  have f820_54 := O.keep K819 all0
  have Z821 : n0 ≤ h819.size := Nat.le_trans Z0 K819.1
  have hC819 := CHr.trans hC hR819
  refine Win.tr ?_ st819
  show Win _ _ _ _ T819 (mkF mt 28 #[.val (.int p01), .val (.int p2), .val (.int u01), .val (.int u2), .val (.int lens), .val (.int (own_I np)), .val (.int un), .unset, .unset, .unset, .unset] [(.ref p_)])
  refine Win.st ?_ (fun tq kq => XS.astore X819.here hx rfl (hb hby at_28) rfl rfl (l' := #[.val (.int p01), .val (.int p2), .val (.int u01), .val (.int u2), .val (.int lens), .val (.int (own_I np)), .val (.int un), .val (.ref p_), .unset, .unset, .unset]) rfl kq)
  refine w_iload X819 hx hby at_30 rfl ?_
  refine w_iloadN X819 hx hby at_32 rfl ?_
  refine Win.st ?_ (fun tq kq => XS.i2c X819.here hx rfl (hb hby at_33) rfl kq)
  refine w_iloadN X819 hx hby at_34 rfl ?_
  refine w_bipush X819 hx hby at_35 ?_
  refine Win.st ?_ (fun tq kq => XS.iushr X819.here hx rfl (hb hby at_37) rfl kq)
  show Win _ _ _ _ T819 (mkF mt 38 #[.val (.int p01), .val (.int p2), .val (.int u01), .val (.int u2), .val (.int lens), .val (.int (own_I np)), .val (.int un), .val (.ref p_), .unset, .unset, .unset] [(.int ((u01.toUInt32 >>> ((16 : Int32) &&& 31).toUInt32).toInt32)), (.int (u01.toUInt32.toUInt16.toUInt32.toInt32)), (.int un)])
  refine Win.st ?_ (fun tq kq => XS.i2c X819.here hx rfl (hb hby at_38) rfl kq)
  refine w_iloadN X819 hx hby at_39 rfl ?_
  refine Win.st ?_ (fun tq kq => XS.i2c X819.here hx rfl (hb hby at_40) rfl kq)
  show Win _ _ _ _ T819 (mkF mt 41 #[.val (.int p01), .val (.int p2), .val (.int u01), .val (.int u2), .val (.int lens), .val (.int (own_I np)), .val (.int un), .val (.ref p_), .unset, .unset, .unset] [(.int (u2.toUInt32.toUInt16.toUInt32.toInt32)), (.int (((u01.toUInt32 >>> ((16 : Int32) &&& 31).toUInt32).toInt32).toUInt32.toUInt16.toUInt32.toInt32)), (.int (u01.toUInt32.toUInt16.toUInt32.toInt32)), (.int un)])
  obtain ⟨cu0, hq_cu0⟩ : ∃ z, z = (u01.toUInt32.toUInt16.toUInt32.toInt32) := ⟨_, rfl⟩
  have hX_cu0 : own_C cu0 := by rw [hq_cu0]; exact own_i2cC _
  rw [← hq_cu0]
  show Win _ _ _ _ T819 (mkF mt 41 #[.val (.int p01), .val (.int p2), .val (.int u01), .val (.int u2), .val (.int lens), .val (.int (own_I np)), .val (.int un), .val (.ref p_), .unset, .unset, .unset] [(.int (u2.toUInt32.toUInt16.toUInt32.toInt32)), (.int (((u01.toUInt32 >>> ((16 : Int32) &&& 31).toUInt32).toInt32).toUInt32.toUInt16.toUInt32.toInt32)), (.int cu0), (.int un)])
  obtain ⟨cu1, hq_cu1⟩ : ∃ z, z = (((u01.toUInt32 >>> ((16 : Int32) &&& 31).toUInt32).toInt32).toUInt32.toUInt16.toUInt32.toInt32) := ⟨_, rfl⟩
  have hX_cu1 : own_C cu1 := by rw [hq_cu1]; exact own_i2cC _
  rw [← hq_cu1]
  show Win _ _ _ _ T819 (mkF mt 41 #[.val (.int p01), .val (.int p2), .val (.int u01), .val (.int u2), .val (.int lens), .val (.int (own_I np)), .val (.int un), .val (.ref p_), .unset, .unset, .unset] [(.int (u2.toUInt32.toUInt16.toUInt32.toInt32)), (.int cu1), (.int cu0), (.int un)])
  obtain ⟨cu2, hq_cu2⟩ : ∃ z, z = (u2.toUInt32.toUInt16.toUInt32.toInt32) := ⟨_, rfl⟩
  have hX_cu2 : own_C cu2 := by rw [hq_cu2]; exact own_i2cC _
  rw [← hq_cu2]
  show Win _ _ _ _ T819 (mkF mt 41 #[.val (.int p01), .val (.int p2), .val (.int u01), .val (.int u2), .val (.int lens), .val (.int (own_I np)), .val (.int un), .val (.ref p_), .unset, .unset, .unset] [(.int cu2), (.int cu1), (.int cu0), (.int un)])
  obtain ⟨v822, _, ⟨T822, L822, k822, n822⟩, -, X822, hS822, hgr822, ⟨Lc822, hQ822, l822, y822, z822, hR822⟩, st822⟩ := callSS X819 hx (y := y_29) hown819 (mvT hZ819 (ow hw 0 rfl)) (mvT hZ819 (ow hw 1 rfl)) (mvT hZ819 (ow hw 2 rfl)) (mvT hZ819 (ow hw 3 rfl)) (by decide) (own_backX (RR := (CHr Z own_EL)) (s := s) (vm0 := T819.vm) (W := 0) (rm_mk l Z a0 hw [] un cu0 cu1 cu2 h819 n0 Z821 hd_un hX_cu0 hX_cu1 hX_cu2 ST f820_54) (fun _ _ _ q r => q.trans r) hZ819 (ow hw 3 rfl) (ow hw 2 rfl) (by decide) (by decide) (own_EW hw) hC819.1 all0 (Vm.MethodsKnown.alikeC hS819.1.alike hK.1) (Vm.FramesKnown.alikeC hS819.1.alike hK.2)) (g := (mkF mt 41 #[.val (.int p01), .val (.int p2), .val (.int u01), .val (.int u2), .val (.int lens), .val (.int (own_I np)), .val (.int un), .val (.ref p_), .unset, .unset, .unset] [(.int cu2), (.int cu1), (.int cu0), (.int un)])) rfl (by rw [hml]; rfl) (argsL := [(.int un), (.int cu0), (.int cu1), (.int cu2)]) (rest := []) (lenOf pd_38 rfl) rfl (wz rfl) (hb hby at_41) (fun _ _ => ⟨rfl, e819, (by decide : 4 + 4 ≤ _), (by decide : 16 + 16 ≤ _)⟩)
  dsimp only [Pt.U, Pt.locs, Pt.cells, Pt.slots] at X822 l822 y822 z822 st822 hQ822 hS822 hR822
  obtain ⟨X822, hS822, hZ822, hown822⟩ := rebS (s := s) (vm0 := T819.vm) hS819 hk819 X822 hS822 (by rw [← e819]; exact hgr822) hZ819 hown819
  subst y822 z822
  replace X822 : Stand p l e _ (s.setVm T822.vm) mt args below meth cd T822 L822 8 32 := X822
  obtain ⟨h822, e822⟩ : ∃ z, T822.heap = z := ⟨_, rfl⟩
  rw [e822] at hQ822 hR822
  have hk822 : T822.heap.size ≤ h822.size := by rw [e822]; exact Nat.le_refl _
  obtain ⟨u_, rfl, Nq822, K822, E822, nu, rfl, hu3, bsu, ksu, zsu, vsu, cou, fv822, fc822, V822, Hu⟩ := hQ822
  have N822 : Fr n0 L822 := by rw [l822]; exact Fr.app N819 Nq822
  have f823_93 := f820_54.keep K822 all0
  have f823_94 := E819.keep K822
  have f823_95 := fv819.keep K822 nin0
  have f823_96 := fc819.keep K822 nin0
  have f823_97 := V819.keep K822 nin0
  have Z824 : n0 ≤ h822.size := Nat.le_trans Z821 K822.1
  have hC822 := CHr.trans hC819 hR822
  refine Win.tr ?_ st822
  show Win _ _ _ _ T822 (mkF mt 44 #[.val (.int p01), .val (.int p2), .val (.int u01), .val (.int u2), .val (.int lens), .val (.int (own_I np)), .val (.int (own_I nu)), .val (.ref p_), .unset, .unset, .unset] [(.ref u_)])
  refine Win.st ?_ (fun tq kq => XS.astore X822.here hx rfl (hb hby at_44) rfl rfl (l' := #[.val (.int p01), .val (.int p2), .val (.int u01), .val (.int u2), .val (.int lens), .val (.int (own_I np)), .val (.int (own_I nu)), .val (.ref p_), .val (.ref u_), .unset, .unset]) rfl kq)
  refine w_aload X822 hx hby at_46 rfl rfl ?_
  refine w_aload X822 hx hby at_48 rfl rfl ?_
  show Win _ _ _ _ T822 (mkF mt 50 #[.val (.int p01), .val (.int p2), .val (.int u01), .val (.int u2), .val (.int lens), .val (.int (own_I np)), .val (.int (own_I nu)), .val (.ref p_), .val (.ref u_), .unset, .unset] [(.ref u_), (.ref p_)])
  obtain ⟨v825, _, ⟨T825, L825, k825, n825⟩, -, X825, hS825, hgr825, ⟨Lc825, hQ825, l825, y825, z825, hR825⟩, st825⟩ := callSS X822 hx (y := y_54) hown822 (mvT hZ822 (ow hw 26 rfl)) (mvT hZ822 (ow hw 27 rfl)) (mvT hZ822 (ow hw 28 rfl)) (mvT hZ822 (ow hw 29 rfl)) (by decide) (own_backX (RR := (CHr Z own_EL)) (s := s) (vm0 := T822.vm) (W := 0) (rm_ue l Z a0 hw [] p_ u_ bsp ksp zsp vsp cop np (own_f cp0 cp1 cp2) bsu ksu zsu vsu cou nu (own_f cu0 cu1 cu2) h822 n0 Z824 f823_94 f823_95 f823_96 f823_97 Hp E822 fv822 fc822 V822 Hu (by omega) hlt h2r ST f823_93) (fun _ _ _ q r => q.trans r) hZ822 (ow hw 29 rfl) (ow hw 28 rfl) (by decide) (by decide) (own_EW hw) hC822.1 all0 (Vm.MethodsKnown.alikeC hS822.1.alike hK.1) (Vm.FramesKnown.alikeC hS822.1.alike hK.2)) (g := (mkF mt 50 #[.val (.int p01), .val (.int p2), .val (.int u01), .val (.int u2), .val (.int lens), .val (.int (own_I np)), .val (.int (own_I nu)), .val (.ref p_), .val (.ref u_), .unset, .unset] [(.ref u_), (.ref p_)])) rfl (by rw [hml]; rfl) (argsL := [(.ref p_), (.ref u_)]) (rest := []) (lenOf pd_39 rfl) rfl (wz rfl) (hb hby at_50) (fun _ _ => ⟨rfl, e822, (by decide : 8 + 14 ≤ _), (by decide : 32 + 3200 ≤ _)⟩)
  dsimp only [Pt.U, Pt.locs, Pt.cells, Pt.slots] at X825 l825 y825 z825 st825 hQ825 hS825 hR825
  obtain ⟨X825, hS825, hZ825, hown825⟩ := rebS (s := s) (vm0 := T822.vm) hS822 hk822 X825 hS825 (by rw [← e822]; exact hgr825) hZ822 hown822
  subst y825 z825
  replace X825 : Stand p l e _ (s.setVm T825.vm) mt args below meth cd T825 L825 22 3232 := X825
  obtain ⟨h825, e825⟩ : ∃ z, T825.heap = z := ⟨_, rfl⟩
  rw [e825] at hQ825 hR825
  have hk825 : T825.heap.size ≤ h825.size := by rw [e825]; exact Nat.le_refl _
  obtain ⟨ex, rfl, Nq825, K825, Ex825, m_, fm, Fm825, E825, HM, bsm, ksm, zsm, vsm, com, fv825, fc825, V825, Hm⟩ := hQ825
  have N825 : Fr n0 L825 := by rw [l825]; exact Fr.app N822 Nq825
  have f826_116 := f823_93.keep K825 all0
  have f826_117 := f823_94.keep K825
  have f826_118 := f823_95.keep K825 nin0
  have f826_119 := f823_96.keep K825 nin0
  have f826_120 := f823_97.keep K825 nin0
  have f826_121 := E822.keep K825
  have f826_122 := fv822.keep K825 nin0
  have f826_123 := fc822.keep K825 nin0
  have f826_124 := V822.keep K825 nin0
  have Z827 : n0 ≤ h825.size := Nat.le_trans Z824 K825.1
  have hC825 := CHr.trans hC822 hR825
  refine Win.tr ?_ st825
  show Win _ _ _ _ T825 (mkF mt 53 #[.val (.int p01), .val (.int p2), .val (.int u01), .val (.int u2), .val (.int lens), .val (.int (own_I np)), .val (.int (own_I nu)), .val (.ref p_), .val (.ref u_), .unset, .unset] [(.ref ex)])
  refine Win.st ?_ (fun tq kq => XS.astore X825.here hx rfl (hb hby at_53) rfl rfl (l' := #[.val (.int p01), .val (.int p2), .val (.int u01), .val (.int u2), .val (.int lens), .val (.int (own_I np)), .val (.int (own_I nu)), .val (.ref p_), .val (.ref u_), .val (.ref ex), .unset]) rfl kq)
  refine w_aload X825 hx hby at_55 rfl rfl ?_
  show Win _ _ _ _ T825 (mkF mt 57 #[.val (.int p01), .val (.int p2), .val (.int u01), .val (.int u2), .val (.int lens), .val (.int (own_I np)), .val (.int (own_I nu)), .val (.ref p_), .val (.ref u_), .val (.ref ex), .unset] [(.ref ex)])
  refine Win.st ?_ (fun tq kq => XS.ifnonnullYes X825.here hx rfl (pc0 := 57) (pc' := 62) rfl (hb hby at_57) rfl (by decide) (by decide) kq)
  refine w_aload X825 hx hby at_62 rfl rfl ?_
  show Win _ _ _ _ T825 (mkF mt 64 #[.val (.int p01), .val (.int p2), .val (.int u01), .val (.int u2), .val (.int lens), .val (.int (own_I np)), .val (.int (own_I nu)), .val (.ref p_), .val (.ref u_), .val (.ref ex), .unset] [(.ref ex)])
  obtain ⟨cq828, kq828, q828a, q828b, q828c⟩ := isOf hZ825 e825 Ex825
  obtain ⟨v828, _, ⟨T828, L828, k828, n828⟩, -, X828, ⟨Lc828, hQ828, l828, rfl, rfl⟩, st828⟩ := own_virtU X825 hx (y := y_57) (z := y_55) hown825 (mvT hZ825 (ow hw 197 rfl)) (mvT hZ825 (ow hw 198 rfl)) (by decide) (mvT hZ825 (ow hw 199 rfl)) (mvT hZ825 (ow hw 201 rfl)) (mvT hZ825 (ow hw 200 rfl)) (backOf (W := 0) (rm_gm l Z a0 hw [] ex m_ h825 n0 Z827 Fm825) hZ825 (ow hw 202 rfl) (ow hw 158 rfl) (by decide) (by decide)) q828a q828c (g := (mkF mt 64 #[.val (.int p01), .val (.int p2), .val (.int u01), .val (.int u2), .val (.int lens), .val (.int (own_I np)), .val (.int (own_I nu)), .val (.ref p_), .val (.ref u_), .val (.ref ex), .unset] [(.ref ex)])) rfl (by rw [hml]; rfl) (Steps.refl _) (argsL := []) (rest := []) (lenOf pd_36 rfl) rfl (wz rfl) (hb hby at_64) (fun _ _ => ⟨rfl, e825, (by decide : 22 + 0 ≤ _), (by decide : 3232 + 0 ≤ _)⟩)
  replace X828 : Stand p l e _ (s.setVm T825.vm) mt args below meth cd T828 L828 22 3232 := X828
  obtain ⟨rfl, Nq828, eh828⟩ := hQ828
  have N828 := own_fr (L := L828) l828 N825 Nq828
  refine Win.tr ?_ st828
  show Win _ _ _ _ T828 (mkF mt 67 #[.val (.int p01), .val (.int p2), .val (.int u01), .val (.int u2), .val (.int lens), .val (.int (own_I np)), .val (.int (own_I nu)), .val (.ref p_), .val (.ref u_), .val (.ref ex), .unset] [(.ref m_)])
  refine Win.st ?_ (fun tq kq => XS.astore X828.here hx rfl (hb hby at_67) rfl rfl (l' := #[.val (.int p01), .val (.int p2), .val (.int u01), .val (.int u2), .val (.int lens), .val (.int (own_I np)), .val (.int (own_I nu)), .val (.ref p_), .val (.ref u_), .val (.ref ex), .val (.ref m_)]) rfl kq)
  refine w_aload X828 hx hby at_69 rfl rfl ?_
  show Win _ _ _ _ T828 (mkF mt 71 #[.val (.int p01), .val (.int p2), .val (.int u01), .val (.int u2), .val (.int lens), .val (.int (own_I np)), .val (.int (own_I nu)), .val (.ref p_), .val (.ref u_), .val (.ref ex), .val (.ref m_)] [(.ref m_)])
  refine Win.st ?_ (fun tq kq => XS.ifnonnullYes X828.here hx rfl (pc0 := 71) (pc' := 76) rfl (hb hby at_71) rfl (by decide) (by decide) kq)
  refine w_aload X828 hx hby at_76 rfl rfl ?_
  show Win _ _ _ _ T828 (mkF mt 78 #[.val (.int p01), .val (.int p2), .val (.int u01), .val (.int u2), .val (.int lens), .val (.int (own_I np)), .val (.int (own_I nu)), .val (.ref p_), .val (.ref u_), .val (.ref ex), .val (.ref m_)] [(.ref m_)])
  obtain ⟨cq829, kq829, q829a, q829b, q829c⟩ := isOf hZ825 eh828 E825
  obtain ⟨v829, _, ⟨T829, L829, k829, n829⟩, -, X829, ⟨Lc829, hQ829, l829, rfl, rfl⟩, st829⟩ := X828.virtualBack hx (y := y_3) (z := y_3) hown825 (mvT hZ825 (ow hw 203 rfl)) (mvT hZ825 (ow hw 62 rfl)) (notFace_of_selects (args := #[]) (mvT hZ825 (ow hw 64 rfl))) (mvT hZ825 (ow hw 64 rfl)) (mvT hZ825 (ow hw 63 rfl)) (by decide) (backOf (W := 0) (rm_slen l Z a0 hw [] m_ bsm ksm zsm vsm com (np + 10 + nu) fm h825 n0 Z827 E825 fv825 fc825 V825 Hm ST f826_116) hZ825 (ow hw 65 rfl) (ow hw 6 rfl) (by decide) (by decide)) q829a q829c (g := (mkF mt 78 #[.val (.int p01), .val (.int p2), .val (.int u01), .val (.int u2), .val (.int lens), .val (.int (own_I np)), .val (.int (own_I nu)), .val (.ref p_), .val (.ref u_), .val (.ref ex), .val (.ref m_)] [(.ref m_)])) rfl (by rw [hml]; rfl) (Steps.refl _) (argsL := []) (rest := []) (lenOf pd_27 rfl) rfl (wz rfl) (hb hby at_78) (fun _ _ => ⟨rfl, eh828, (by decide : 22 + 0 ≤ _), (by decide : 3232 + 0 ≤ _)⟩)
  replace X829 : Stand p l e _ (s.setVm T825.vm) mt args below meth cd T829 L829 22 3232 := X829
  obtain ⟨rfl, Nq829, eh829⟩ := hQ829
  have N829 := own_fr (L := L829) l829 N828 Nq829
  refine Win.tr ?_ st829
  refine w_iload X829 hx hby at_81 rfl ?_
  refine w_bipush X829 hx hby at_83 ?_
  refine Win.st ?_ (fun tq kq => XS.iadd X829.here hx rfl (hb hby at_85) rfl kq)
  refine w_iload X829 hx hby at_86 rfl ?_
  refine Win.st ?_ (fun tq kq => XS.iadd X829.here hx rfl (hb hby at_88) rfl kq)
  show Win _ _ _ _ T829 (mkF mt 89 #[.val (.int p01), .val (.int p2), .val (.int u01), .val (.int u2), .val (.int lens), .val (.int (own_I np)), .val (.int (own_I nu)), .val (.ref p_), .val (.ref u_), .val (.ref ex), .val (.ref m_)] [(.int (((own_I np) + (10 : Int32)) + (own_I nu))), (.int (own_I (np + 10 + nu)))])
  refine Win.st ?_ (fun tq kq => XS.icmpYes X829.here hx rfl (pc0 := 89) (pc' := 94) rfl (hb hby at_89) rfl (teq (by rw [own_I_add10, own_I_add])).1 (by decide) (by decide) kq)
  refine w_aload X829 hx hby at_94 rfl rfl ?_
  refine w_aload X829 hx hby at_96 rfl rfl ?_
  refine w_aload X829 hx hby at_98 rfl rfl ?_
  refine w_iconst X829 hx hby at_100 ?_
  show Win _ _ _ _ T829 (mkF mt 101 #[.val (.int p01), .val (.int p2), .val (.int u01), .val (.int u2), .val (.int lens), .val (.int (own_I np)), .val (.int (own_I nu)), .val (.ref p_), .val (.ref u_), .val (.ref ex), .val (.ref m_)] [(.int (0 : Int32)), (.ref u_), (.ref p_), (.ref m_)])
  obtain ⟨v830, _, ⟨T830, L830, k830, n830⟩, -, X830, hS830, hgr830, ⟨Lc830, hQ830, l830, y830, z830, hR830⟩, st830⟩ := callSS X829 hx (y := y_56) hown825 (mvT hZ825 (ow hw 204 rfl)) (mvT hZ825 (ow hw 205 rfl)) (mvT hZ825 (ow hw 2 rfl)) (mvT hZ825 (ow hw 206 rfl)) (by decide) (own_backX (RR := (own_LitR Z)) (s := s) (vm0 := T825.vm) (W := 0) (rm_ok1 l Z a0 hw [] m_ p_ u_ bsm ksm zsm vsm com (np + 10 + nu) fm bsp ksp zsp vsp cop np (own_f cp0 cp1 cp2) bsu ksu zsu vsu cou nu (own_f cu0 cu1 cu2) 0 h825 n0 Z827 E825 fv825 fc825 V825 Hm f826_117 f826_118 f826_119 f826_120 Hp f826_121 f826_122 f826_123 f826_124 Hu HM rfl (by omega) ST f826_116) (fun _ _ _ _ r => r) hZ825 (ow hw 206 rfl) (ow hw 2 rfl) (by decide) (by decide) (own_EW hw) hC825.1 all0 (Vm.MethodsKnown.alikeC hS825.1.alike hK.1) (Vm.FramesKnown.alikeC hS825.1.alike hK.2)) (g := (mkF mt 101 #[.val (.int p01), .val (.int p2), .val (.int u01), .val (.int u2), .val (.int lens), .val (.int (own_I np)), .val (.int (own_I nu)), .val (.ref p_), .val (.ref u_), .val (.ref ex), .val (.ref m_)] [(.int (0 : Int32)), (.ref u_), (.ref p_), (.ref m_)])) rfl (by rw [hml]; rfl) (argsL := [(.ref m_), (.ref p_), (.ref u_), (.int (0 : Int32))]) (rest := []) (lenOf pd_40 rfl) rfl (wz rfl) (hb hby at_101) (fun _ _ => ⟨rfl, eh829, (by decide : 22 + 2 ≤ _), (by decide : 3232 + 40 ≤ _)⟩)
  dsimp only [Pt.U, Pt.locs, Pt.cells, Pt.slots] at X830 l830 y830 z830 st830 hQ830 hS830 hR830
  obtain ⟨X830, hS830, hZ830, hown830⟩ := rebS (s := s) (vm0 := T825.vm) hS825 hk825 X830 hS830 (by rw [← eh829]; exact hgr830) hZ825 hown825
  subst y830 z830
  replace X830 : Stand p l e _ (s.setVm T830.vm) mt args below meth cd T830 L830 24 3272 := X830
  obtain ⟨h830, e830⟩ : ∃ z, T830.heap = z := ⟨_, rfl⟩
  rw [e830] at hQ830 hR830
  have hk830 : T830.heap.size ≤ h830.size := by rw [e830]; exact Nat.le_refl _
  obtain ⟨rfl, Nq830, K830⟩ := hQ830
  have N830 : Fr n0 L830 := by rw [l830]; exact Fr.app N829 Nq830
  have f831_176 := f826_116.keep K830 all0
  have f831_177 := f826_117.keep K830
  have f831_178 := f826_118.keep K830 nin0
  have f831_179 := f826_119.keep K830 nin0
  have f831_180 := f826_120.keep K830 nin0
  have f831_181 := f826_121.keep K830
  have f831_182 := f826_122.keep K830 nin0
  have f831_183 := f826_123.keep K830 nin0
  have f831_184 := f826_124.keep K830 nin0
  have f831_187 := E825.keep K830
  have f831_188 := fv825.keep K830 nin0
  have f831_189 := fc825.keep K830 nin0
  have f831_190 := V825.keep K830 nin0
  have Z832 : n0 ≤ h830.size := Nat.le_trans Z827 K830.1
  obtain ⟨li, lb, lk, hLit, El, Fvl, Fcl, Vl⟩ := hR830
  refine Win.tr ?_ st830
  show Win _ _ _ _ T830 (mkF mt 104 #[.val (.int p01), .val (.int p2), .val (.int u01), .val (.int u2), .val (.int lens), .val (.int (own_I np)), .val (.int (own_I nu)), .val (.ref p_), .val (.ref u_), .val (.ref ex), .val (.ref m_)] [(.int (1 : Int32))])
  refine Win.st ?_ (fun tq kq => XS.ifNo X830.here hx rfl (hb hby at_104) rfl ((if0 _ _).trans (feq (by decide : ¬ ((1 : Int32) = (0 : Int32)))).1) kq)
  refine w_aload X830 hx hby at_107 rfl rfl ?_
  refine w_aload X830 hx hby at_109 rfl rfl ?_
  refine w_aload X830 hx hby at_111 rfl rfl ?_
  refine w_iconst X830 hx hby at_113 ?_
  show Win _ _ _ _ T830 (mkF mt 114 #[.val (.int p01), .val (.int p2), .val (.int u01), .val (.int u2), .val (.int lens), .val (.int (own_I np)), .val (.int (own_I nu)), .val (.ref p_), .val (.ref u_), .val (.ref ex), .val (.ref m_)] [(.int (1 : Int32)), (.ref u_), (.ref p_), (.ref m_)])
  have hok2 := fun (j : Nat) (hj : j ≤ 15) => rm_ok2 l Z a0 hw [] m_ p_ u_ bsm ksm zsm vsm com (np + 10 + nu) fm bsp ksp zsp vsp cop np (own_f cp0 cp1 cp2) bsu ksu zsu vsu cou nu (own_f cu0 cu1 cu2) j li lb lk h830 n0 Z832 f831_187 f831_188 f831_189 f831_190 Hm f831_177 f831_178 f831_179 f831_180 Hp f831_181 f831_182 f831_183 f831_184 Hu HM rfl hj ST f831_176 El Fvl Fcl Vl
  obtain ⟨v833, _, ⟨T833, L833, k833, n833⟩, -, X833, ⟨Lc833, hQ833, l833, rfl, rfl⟩, st833⟩ := Jvm.LawKit.callS X830 hx (y := y_56) hown830 (mvT hZ830 (ow hw 204 rfl)) (mvT hZ830 (ow hw 205 rfl)) (mvT hZ830 (ow hw 2 rfl)) (mvT hZ830 (ow hw 206 rfl)) (by decide) (own_backL (W := 0) (hok2 1 (by omega)) hZ830 (ow hw 206 rfl) (ow hw 2 rfl) (by decide) (by decide) (show Lit (s.setVm T830.vm) _ _ _ from hLit)) (g := (mkF mt 114 #[.val (.int p01), .val (.int p2), .val (.int u01), .val (.int u2), .val (.int lens), .val (.int (own_I np)), .val (.int (own_I nu)), .val (.ref p_), .val (.ref u_), .val (.ref ex), .val (.ref m_)] [(.int (1 : Int32)), (.ref u_), (.ref p_), (.ref m_)])) rfl (by rw [hml]; rfl) (argsL := [(.ref m_), (.ref p_), (.ref u_), (.int (1 : Int32))]) (rest := []) (lenOf pd_40 rfl) rfl (wz rfl) (hb hby at_114) (fun _ _ => ⟨rfl, e830, (by decide : 24 + 0 ≤ _), (by decide : 3272 + 0 ≤ _)⟩)
  replace X833 : Stand p l e _ (s.setVm T830.vm) mt args below meth cd T833 L833 24 3272 := X833
  obtain ⟨rfl, Nq833, eh833⟩ := hQ833
  have N833 := own_fr (L := L833) l833 N830 Nq833
  refine Win.st ?_ st833
  show Win _ _ _ _ T833 (mkF mt 117 #[.val (.int p01), .val (.int p2), .val (.int u01), .val (.int u2), .val (.int lens), .val (.int (own_I np)), .val (.int (own_I nu)), .val (.ref p_), .val (.ref u_), .val (.ref ex), .val (.ref m_)] [(.int (1 : Int32))])
  refine Win.st ?_ (fun tq kq => XS.ifNo X833.here hx rfl (hb hby at_117) rfl ((if0 _ _).trans (feq (by decide : ¬ ((1 : Int32) = (0 : Int32)))).1) kq)
  refine w_aload X833 hx hby at_120 rfl rfl ?_
  refine w_aload X833 hx hby at_122 rfl rfl ?_
  refine w_aload X833 hx hby at_124 rfl rfl ?_
  refine w_iconst X833 hx hby at_126 ?_
  show Win _ _ _ _ T833 (mkF mt 127 #[.val (.int p01), .val (.int p2), .val (.int u01), .val (.int u2), .val (.int lens), .val (.int (own_I np)), .val (.int (own_I nu)), .val (.ref p_), .val (.ref u_), .val (.ref ex), .val (.ref m_)] [(.int (2 : Int32)), (.ref u_), (.ref p_), (.ref m_)])
  obtain ⟨v834, _, ⟨T834, L834, k834, n834⟩, -, X834, ⟨Lc834, hQ834, l834, rfl, rfl⟩, st834⟩ := Jvm.LawKit.callS X833 hx (y := y_56) hown830 (mvT hZ830 (ow hw 204 rfl)) (mvT hZ830 (ow hw 205 rfl)) (mvT hZ830 (ow hw 2 rfl)) (mvT hZ830 (ow hw 206 rfl)) (by decide) (own_backL (W := 0) (hok2 2 (by omega)) hZ830 (ow hw 206 rfl) (ow hw 2 rfl) (by decide) (by decide) (show Lit (s.setVm T830.vm) _ _ _ from hLit)) (g := (mkF mt 127 #[.val (.int p01), .val (.int p2), .val (.int u01), .val (.int u2), .val (.int lens), .val (.int (own_I np)), .val (.int (own_I nu)), .val (.ref p_), .val (.ref u_), .val (.ref ex), .val (.ref m_)] [(.int (2 : Int32)), (.ref u_), (.ref p_), (.ref m_)])) rfl (by rw [hml]; rfl) (argsL := [(.ref m_), (.ref p_), (.ref u_), (.int (2 : Int32))]) (rest := []) (lenOf pd_40 rfl) rfl (wz rfl) (hb hby at_127) (fun _ _ => ⟨rfl, eh833, (by decide : 24 + 0 ≤ _), (by decide : 3272 + 0 ≤ _)⟩)
  replace X834 : Stand p l e _ (s.setVm T830.vm) mt args below meth cd T834 L834 24 3272 := X834
  obtain ⟨rfl, Nq834, eh834⟩ := hQ834
  have N834 := own_fr (L := L834) l834 N833 Nq834
  refine Win.st ?_ st834
  show Win _ _ _ _ T834 (mkF mt 130 #[.val (.int p01), .val (.int p2), .val (.int u01), .val (.int u2), .val (.int lens), .val (.int (own_I np)), .val (.int (own_I nu)), .val (.ref p_), .val (.ref u_), .val (.ref ex), .val (.ref m_)] [(.int (1 : Int32))])
  refine Win.st ?_ (fun tq kq => XS.ifNo X834.here hx rfl (hb hby at_130) rfl ((if0 _ _).trans (feq (by decide : ¬ ((1 : Int32) = (0 : Int32)))).1) kq)
  refine w_aload X834 hx hby at_133 rfl rfl ?_
  refine w_aload X834 hx hby at_135 rfl rfl ?_
  refine w_aload X834 hx hby at_137 rfl rfl ?_
  refine w_iconst X834 hx hby at_139 ?_
  show Win _ _ _ _ T834 (mkF mt 140 #[.val (.int p01), .val (.int p2), .val (.int u01), .val (.int u2), .val (.int lens), .val (.int (own_I np)), .val (.int (own_I nu)), .val (.ref p_), .val (.ref u_), .val (.ref ex), .val (.ref m_)] [(.int (3 : Int32)), (.ref u_), (.ref p_), (.ref m_)])
  obtain ⟨v835, _, ⟨T835, L835, k835, n835⟩, -, X835, ⟨Lc835, hQ835, l835, rfl, rfl⟩, st835⟩ := Jvm.LawKit.callS X834 hx (y := y_56) hown830 (mvT hZ830 (ow hw 204 rfl)) (mvT hZ830 (ow hw 205 rfl)) (mvT hZ830 (ow hw 2 rfl)) (mvT hZ830 (ow hw 206 rfl)) (by decide) (own_backL (W := 0) (hok2 3 (by omega)) hZ830 (ow hw 206 rfl) (ow hw 2 rfl) (by decide) (by decide) (show Lit (s.setVm T830.vm) _ _ _ from hLit)) (g := (mkF mt 140 #[.val (.int p01), .val (.int p2), .val (.int u01), .val (.int u2), .val (.int lens), .val (.int (own_I np)), .val (.int (own_I nu)), .val (.ref p_), .val (.ref u_), .val (.ref ex), .val (.ref m_)] [(.int (3 : Int32)), (.ref u_), (.ref p_), (.ref m_)])) rfl (by rw [hml]; rfl) (argsL := [(.ref m_), (.ref p_), (.ref u_), (.int (3 : Int32))]) (rest := []) (lenOf pd_40 rfl) rfl (wz rfl) (hb hby at_140) (fun _ _ => ⟨rfl, eh834, (by decide : 24 + 0 ≤ _), (by decide : 3272 + 0 ≤ _)⟩)
  replace X835 : Stand p l e _ (s.setVm T830.vm) mt args below meth cd T835 L835 24 3272 := X835
  obtain ⟨rfl, Nq835, eh835⟩ := hQ835
  have N835 := own_fr (L := L835) l835 N834 Nq835
  refine Win.st ?_ st835
  show Win _ _ _ _ T835 (mkF mt 143 #[.val (.int p01), .val (.int p2), .val (.int u01), .val (.int u2), .val (.int lens), .val (.int (own_I np)), .val (.int (own_I nu)), .val (.ref p_), .val (.ref u_), .val (.ref ex), .val (.ref m_)] [(.int (1 : Int32))])
  refine Win.st ?_ (fun tq kq => XS.ifNo X835.here hx rfl (hb hby at_143) rfl ((if0 _ _).trans (feq (by decide : ¬ ((1 : Int32) = (0 : Int32)))).1) kq)
  refine w_aload X835 hx hby at_146 rfl rfl ?_
  refine w_aload X835 hx hby at_148 rfl rfl ?_
  refine w_aload X835 hx hby at_150 rfl rfl ?_
  refine w_iconst X835 hx hby at_152 ?_
  show Win _ _ _ _ T835 (mkF mt 153 #[.val (.int p01), .val (.int p2), .val (.int u01), .val (.int u2), .val (.int lens), .val (.int (own_I np)), .val (.int (own_I nu)), .val (.ref p_), .val (.ref u_), .val (.ref ex), .val (.ref m_)] [(.int (4 : Int32)), (.ref u_), (.ref p_), (.ref m_)])
  obtain ⟨v836, _, ⟨T836, L836, k836, n836⟩, -, X836, ⟨Lc836, hQ836, l836, rfl, rfl⟩, st836⟩ := Jvm.LawKit.callS X835 hx (y := y_56) hown830 (mvT hZ830 (ow hw 204 rfl)) (mvT hZ830 (ow hw 205 rfl)) (mvT hZ830 (ow hw 2 rfl)) (mvT hZ830 (ow hw 206 rfl)) (by decide) (own_backL (W := 0) (hok2 4 (by omega)) hZ830 (ow hw 206 rfl) (ow hw 2 rfl) (by decide) (by decide) (show Lit (s.setVm T830.vm) _ _ _ from hLit)) (g := (mkF mt 153 #[.val (.int p01), .val (.int p2), .val (.int u01), .val (.int u2), .val (.int lens), .val (.int (own_I np)), .val (.int (own_I nu)), .val (.ref p_), .val (.ref u_), .val (.ref ex), .val (.ref m_)] [(.int (4 : Int32)), (.ref u_), (.ref p_), (.ref m_)])) rfl (by rw [hml]; rfl) (argsL := [(.ref m_), (.ref p_), (.ref u_), (.int (4 : Int32))]) (rest := []) (lenOf pd_40 rfl) rfl (wz rfl) (hb hby at_153) (fun _ _ => ⟨rfl, eh835, (by decide : 24 + 0 ≤ _), (by decide : 3272 + 0 ≤ _)⟩)
  replace X836 : Stand p l e _ (s.setVm T830.vm) mt args below meth cd T836 L836 24 3272 := X836
  obtain ⟨rfl, Nq836, eh836⟩ := hQ836
  have N836 := own_fr (L := L836) l836 N835 Nq836
  refine Win.st ?_ st836
  show Win _ _ _ _ T836 (mkF mt 156 #[.val (.int p01), .val (.int p2), .val (.int u01), .val (.int u2), .val (.int lens), .val (.int (own_I np)), .val (.int (own_I nu)), .val (.ref p_), .val (.ref u_), .val (.ref ex), .val (.ref m_)] [(.int (1 : Int32))])
  refine Win.st ?_ (fun tq kq => XS.ifNo X836.here hx rfl (hb hby at_156) rfl ((if0 _ _).trans (feq (by decide : ¬ ((1 : Int32) = (0 : Int32)))).1) kq)
  refine w_aload X836 hx hby at_159 rfl rfl ?_
  refine w_aload X836 hx hby at_161 rfl rfl ?_
  refine w_aload X836 hx hby at_163 rfl rfl ?_
  refine w_iconst X836 hx hby at_165 ?_
  show Win _ _ _ _ T836 (mkF mt 166 #[.val (.int p01), .val (.int p2), .val (.int u01), .val (.int u2), .val (.int lens), .val (.int (own_I np)), .val (.int (own_I nu)), .val (.ref p_), .val (.ref u_), .val (.ref ex), .val (.ref m_)] [(.int (5 : Int32)), (.ref u_), (.ref p_), (.ref m_)])
  obtain ⟨v837, _, ⟨T837, L837, k837, n837⟩, -, X837, ⟨Lc837, hQ837, l837, rfl, rfl⟩, st837⟩ := Jvm.LawKit.callS X836 hx (y := y_56) hown830 (mvT hZ830 (ow hw 204 rfl)) (mvT hZ830 (ow hw 205 rfl)) (mvT hZ830 (ow hw 2 rfl)) (mvT hZ830 (ow hw 206 rfl)) (by decide) (own_backL (W := 0) (hok2 5 (by omega)) hZ830 (ow hw 206 rfl) (ow hw 2 rfl) (by decide) (by decide) (show Lit (s.setVm T830.vm) _ _ _ from hLit)) (g := (mkF mt 166 #[.val (.int p01), .val (.int p2), .val (.int u01), .val (.int u2), .val (.int lens), .val (.int (own_I np)), .val (.int (own_I nu)), .val (.ref p_), .val (.ref u_), .val (.ref ex), .val (.ref m_)] [(.int (5 : Int32)), (.ref u_), (.ref p_), (.ref m_)])) rfl (by rw [hml]; rfl) (argsL := [(.ref m_), (.ref p_), (.ref u_), (.int (5 : Int32))]) (rest := []) (lenOf pd_40 rfl) rfl (wz rfl) (hb hby at_166) (fun _ _ => ⟨rfl, eh836, (by decide : 24 + 0 ≤ _), (by decide : 3272 + 0 ≤ _)⟩)
  replace X837 : Stand p l e _ (s.setVm T830.vm) mt args below meth cd T837 L837 24 3272 := X837
  obtain ⟨rfl, Nq837, eh837⟩ := hQ837
  have N837 := own_fr (L := L837) l837 N836 Nq837
  refine Win.st ?_ st837
  show Win _ _ _ _ T837 (mkF mt 169 #[.val (.int p01), .val (.int p2), .val (.int u01), .val (.int u2), .val (.int lens), .val (.int (own_I np)), .val (.int (own_I nu)), .val (.ref p_), .val (.ref u_), .val (.ref ex), .val (.ref m_)] [(.int (1 : Int32))])
  refine Win.st ?_ (fun tq kq => XS.ifNo X837.here hx rfl (hb hby at_169) rfl ((if0 _ _).trans (feq (by decide : ¬ ((1 : Int32) = (0 : Int32)))).1) kq)
  refine w_aload X837 hx hby at_172 rfl rfl ?_
  refine w_aload X837 hx hby at_174 rfl rfl ?_
  refine w_aload X837 hx hby at_176 rfl rfl ?_
  refine w_bipush X837 hx hby at_178 ?_
  show Win _ _ _ _ T837 (mkF mt 180 #[.val (.int p01), .val (.int p2), .val (.int u01), .val (.int u2), .val (.int lens), .val (.int (own_I np)), .val (.int (own_I nu)), .val (.ref p_), .val (.ref u_), .val (.ref ex), .val (.ref m_)] [(.int (6 : Int32)), (.ref u_), (.ref p_), (.ref m_)])
  obtain ⟨v838, _, ⟨T838, L838, k838, n838⟩, -, X838, ⟨Lc838, hQ838, l838, rfl, rfl⟩, st838⟩ := Jvm.LawKit.callS X837 hx (y := y_56) hown830 (mvT hZ830 (ow hw 204 rfl)) (mvT hZ830 (ow hw 205 rfl)) (mvT hZ830 (ow hw 2 rfl)) (mvT hZ830 (ow hw 206 rfl)) (by decide) (own_backL (W := 0) (hok2 6 (by omega)) hZ830 (ow hw 206 rfl) (ow hw 2 rfl) (by decide) (by decide) (show Lit (s.setVm T830.vm) _ _ _ from hLit)) (g := (mkF mt 180 #[.val (.int p01), .val (.int p2), .val (.int u01), .val (.int u2), .val (.int lens), .val (.int (own_I np)), .val (.int (own_I nu)), .val (.ref p_), .val (.ref u_), .val (.ref ex), .val (.ref m_)] [(.int (6 : Int32)), (.ref u_), (.ref p_), (.ref m_)])) rfl (by rw [hml]; rfl) (argsL := [(.ref m_), (.ref p_), (.ref u_), (.int (6 : Int32))]) (rest := []) (lenOf pd_40 rfl) rfl (wz rfl) (hb hby at_180) (fun _ _ => ⟨rfl, eh837, (by decide : 24 + 0 ≤ _), (by decide : 3272 + 0 ≤ _)⟩)
  replace X838 : Stand p l e _ (s.setVm T830.vm) mt args below meth cd T838 L838 24 3272 := X838
  obtain ⟨rfl, Nq838, eh838⟩ := hQ838
  have N838 := own_fr (L := L838) l838 N837 Nq838
  refine Win.st ?_ st838
  show Win _ _ _ _ T838 (mkF mt 183 #[.val (.int p01), .val (.int p2), .val (.int u01), .val (.int u2), .val (.int lens), .val (.int (own_I np)), .val (.int (own_I nu)), .val (.ref p_), .val (.ref u_), .val (.ref ex), .val (.ref m_)] [(.int (1 : Int32))])
  refine Win.st ?_ (fun tq kq => XS.ifNo X838.here hx rfl (hb hby at_183) rfl ((if0 _ _).trans (feq (by decide : ¬ ((1 : Int32) = (0 : Int32)))).1) kq)
  refine w_aload X838 hx hby at_186 rfl rfl ?_
  refine w_aload X838 hx hby at_188 rfl rfl ?_
  refine w_aload X838 hx hby at_190 rfl rfl ?_
  refine w_bipush X838 hx hby at_192 ?_
  show Win _ _ _ _ T838 (mkF mt 194 #[.val (.int p01), .val (.int p2), .val (.int u01), .val (.int u2), .val (.int lens), .val (.int (own_I np)), .val (.int (own_I nu)), .val (.ref p_), .val (.ref u_), .val (.ref ex), .val (.ref m_)] [(.int (7 : Int32)), (.ref u_), (.ref p_), (.ref m_)])
  obtain ⟨v839, _, ⟨T839, L839, k839, n839⟩, -, X839, ⟨Lc839, hQ839, l839, rfl, rfl⟩, st839⟩ := Jvm.LawKit.callS X838 hx (y := y_56) hown830 (mvT hZ830 (ow hw 204 rfl)) (mvT hZ830 (ow hw 205 rfl)) (mvT hZ830 (ow hw 2 rfl)) (mvT hZ830 (ow hw 206 rfl)) (by decide) (own_backL (W := 0) (hok2 7 (by omega)) hZ830 (ow hw 206 rfl) (ow hw 2 rfl) (by decide) (by decide) (show Lit (s.setVm T830.vm) _ _ _ from hLit)) (g := (mkF mt 194 #[.val (.int p01), .val (.int p2), .val (.int u01), .val (.int u2), .val (.int lens), .val (.int (own_I np)), .val (.int (own_I nu)), .val (.ref p_), .val (.ref u_), .val (.ref ex), .val (.ref m_)] [(.int (7 : Int32)), (.ref u_), (.ref p_), (.ref m_)])) rfl (by rw [hml]; rfl) (argsL := [(.ref m_), (.ref p_), (.ref u_), (.int (7 : Int32))]) (rest := []) (lenOf pd_40 rfl) rfl (wz rfl) (hb hby at_194) (fun _ _ => ⟨rfl, eh838, (by decide : 24 + 0 ≤ _), (by decide : 3272 + 0 ≤ _)⟩)
  replace X839 : Stand p l e _ (s.setVm T830.vm) mt args below meth cd T839 L839 24 3272 := X839
  obtain ⟨rfl, Nq839, eh839⟩ := hQ839
  have N839 := own_fr (L := L839) l839 N838 Nq839
  refine Win.st ?_ st839
  show Win _ _ _ _ T839 (mkF mt 197 #[.val (.int p01), .val (.int p2), .val (.int u01), .val (.int u2), .val (.int lens), .val (.int (own_I np)), .val (.int (own_I nu)), .val (.ref p_), .val (.ref u_), .val (.ref ex), .val (.ref m_)] [(.int (1 : Int32))])
  refine Win.st ?_ (fun tq kq => XS.ifNo X839.here hx rfl (hb hby at_197) rfl ((if0 _ _).trans (feq (by decide : ¬ ((1 : Int32) = (0 : Int32)))).1) kq)
  refine w_aload X839 hx hby at_200 rfl rfl ?_
  refine w_aload X839 hx hby at_202 rfl rfl ?_
  refine w_aload X839 hx hby at_204 rfl rfl ?_
  refine w_bipush X839 hx hby at_206 ?_
  show Win _ _ _ _ T839 (mkF mt 208 #[.val (.int p01), .val (.int p2), .val (.int u01), .val (.int u2), .val (.int lens), .val (.int (own_I np)), .val (.int (own_I nu)), .val (.ref p_), .val (.ref u_), .val (.ref ex), .val (.ref m_)] [(.int (8 : Int32)), (.ref u_), (.ref p_), (.ref m_)])
  obtain ⟨v840, _, ⟨T840, L840, k840, n840⟩, -, X840, ⟨Lc840, hQ840, l840, rfl, rfl⟩, st840⟩ := Jvm.LawKit.callS X839 hx (y := y_56) hown830 (mvT hZ830 (ow hw 204 rfl)) (mvT hZ830 (ow hw 205 rfl)) (mvT hZ830 (ow hw 2 rfl)) (mvT hZ830 (ow hw 206 rfl)) (by decide) (own_backL (W := 0) (hok2 8 (by omega)) hZ830 (ow hw 206 rfl) (ow hw 2 rfl) (by decide) (by decide) (show Lit (s.setVm T830.vm) _ _ _ from hLit)) (g := (mkF mt 208 #[.val (.int p01), .val (.int p2), .val (.int u01), .val (.int u2), .val (.int lens), .val (.int (own_I np)), .val (.int (own_I nu)), .val (.ref p_), .val (.ref u_), .val (.ref ex), .val (.ref m_)] [(.int (8 : Int32)), (.ref u_), (.ref p_), (.ref m_)])) rfl (by rw [hml]; rfl) (argsL := [(.ref m_), (.ref p_), (.ref u_), (.int (8 : Int32))]) (rest := []) (lenOf pd_40 rfl) rfl (wz rfl) (hb hby at_208) (fun _ _ => ⟨rfl, eh839, (by decide : 24 + 0 ≤ _), (by decide : 3272 + 0 ≤ _)⟩)
  replace X840 : Stand p l e _ (s.setVm T830.vm) mt args below meth cd T840 L840 24 3272 := X840
  obtain ⟨rfl, Nq840, eh840⟩ := hQ840
  have N840 := own_fr (L := L840) l840 N839 Nq840
  refine Win.st ?_ st840
  show Win _ _ _ _ T840 (mkF mt 211 #[.val (.int p01), .val (.int p2), .val (.int u01), .val (.int u2), .val (.int lens), .val (.int (own_I np)), .val (.int (own_I nu)), .val (.ref p_), .val (.ref u_), .val (.ref ex), .val (.ref m_)] [(.int (1 : Int32))])
  refine Win.st ?_ (fun tq kq => XS.ifNo X840.here hx rfl (hb hby at_211) rfl ((if0 _ _).trans (feq (by decide : ¬ ((1 : Int32) = (0 : Int32)))).1) kq)
  refine w_aload X840 hx hby at_214 rfl rfl ?_
  refine w_aload X840 hx hby at_216 rfl rfl ?_
  refine w_aload X840 hx hby at_218 rfl rfl ?_
  refine w_bipush X840 hx hby at_220 ?_
  show Win _ _ _ _ T840 (mkF mt 222 #[.val (.int p01), .val (.int p2), .val (.int u01), .val (.int u2), .val (.int lens), .val (.int (own_I np)), .val (.int (own_I nu)), .val (.ref p_), .val (.ref u_), .val (.ref ex), .val (.ref m_)] [(.int (9 : Int32)), (.ref u_), (.ref p_), (.ref m_)])
  obtain ⟨v841, _, ⟨T841, L841, k841, n841⟩, -, X841, ⟨Lc841, hQ841, l841, rfl, rfl⟩, st841⟩ := Jvm.LawKit.callS X840 hx (y := y_56) hown830 (mvT hZ830 (ow hw 204 rfl)) (mvT hZ830 (ow hw 205 rfl)) (mvT hZ830 (ow hw 2 rfl)) (mvT hZ830 (ow hw 206 rfl)) (by decide) (own_backL (W := 0) (hok2 9 (by omega)) hZ830 (ow hw 206 rfl) (ow hw 2 rfl) (by decide) (by decide) (show Lit (s.setVm T830.vm) _ _ _ from hLit)) (g := (mkF mt 222 #[.val (.int p01), .val (.int p2), .val (.int u01), .val (.int u2), .val (.int lens), .val (.int (own_I np)), .val (.int (own_I nu)), .val (.ref p_), .val (.ref u_), .val (.ref ex), .val (.ref m_)] [(.int (9 : Int32)), (.ref u_), (.ref p_), (.ref m_)])) rfl (by rw [hml]; rfl) (argsL := [(.ref m_), (.ref p_), (.ref u_), (.int (9 : Int32))]) (rest := []) (lenOf pd_40 rfl) rfl (wz rfl) (hb hby at_222) (fun _ _ => ⟨rfl, eh840, (by decide : 24 + 0 ≤ _), (by decide : 3272 + 0 ≤ _)⟩)
  replace X841 : Stand p l e _ (s.setVm T830.vm) mt args below meth cd T841 L841 24 3272 := X841
  obtain ⟨rfl, Nq841, eh841⟩ := hQ841
  have N841 := own_fr (L := L841) l841 N840 Nq841
  refine Win.st ?_ st841
  show Win _ _ _ _ T841 (mkF mt 225 #[.val (.int p01), .val (.int p2), .val (.int u01), .val (.int u2), .val (.int lens), .val (.int (own_I np)), .val (.int (own_I nu)), .val (.ref p_), .val (.ref u_), .val (.ref ex), .val (.ref m_)] [(.int (1 : Int32))])
  refine Win.st ?_ (fun tq kq => XS.ifNo X841.here hx rfl (hb hby at_225) rfl ((if0 _ _).trans (feq (by decide : ¬ ((1 : Int32) = (0 : Int32)))).1) kq)
  refine w_aload X841 hx hby at_228 rfl rfl ?_
  refine w_aload X841 hx hby at_230 rfl rfl ?_
  refine w_aload X841 hx hby at_232 rfl rfl ?_
  refine w_bipush X841 hx hby at_234 ?_
  show Win _ _ _ _ T841 (mkF mt 236 #[.val (.int p01), .val (.int p2), .val (.int u01), .val (.int u2), .val (.int lens), .val (.int (own_I np)), .val (.int (own_I nu)), .val (.ref p_), .val (.ref u_), .val (.ref ex), .val (.ref m_)] [(.int (10 : Int32)), (.ref u_), (.ref p_), (.ref m_)])
  obtain ⟨v842, _, ⟨T842, L842, k842, n842⟩, -, X842, ⟨Lc842, hQ842, l842, rfl, rfl⟩, st842⟩ := Jvm.LawKit.callS X841 hx (y := y_56) hown830 (mvT hZ830 (ow hw 204 rfl)) (mvT hZ830 (ow hw 205 rfl)) (mvT hZ830 (ow hw 2 rfl)) (mvT hZ830 (ow hw 206 rfl)) (by decide) (own_backL (W := 0) (hok2 10 (by omega)) hZ830 (ow hw 206 rfl) (ow hw 2 rfl) (by decide) (by decide) (show Lit (s.setVm T830.vm) _ _ _ from hLit)) (g := (mkF mt 236 #[.val (.int p01), .val (.int p2), .val (.int u01), .val (.int u2), .val (.int lens), .val (.int (own_I np)), .val (.int (own_I nu)), .val (.ref p_), .val (.ref u_), .val (.ref ex), .val (.ref m_)] [(.int (10 : Int32)), (.ref u_), (.ref p_), (.ref m_)])) rfl (by rw [hml]; rfl) (argsL := [(.ref m_), (.ref p_), (.ref u_), (.int (10 : Int32))]) (rest := []) (lenOf pd_40 rfl) rfl (wz rfl) (hb hby at_236) (fun _ _ => ⟨rfl, eh841, (by decide : 24 + 0 ≤ _), (by decide : 3272 + 0 ≤ _)⟩)
  replace X842 : Stand p l e _ (s.setVm T830.vm) mt args below meth cd T842 L842 24 3272 := X842
  obtain ⟨rfl, Nq842, eh842⟩ := hQ842
  have N842 := own_fr (L := L842) l842 N841 Nq842
  refine Win.st ?_ st842
  show Win _ _ _ _ T842 (mkF mt 239 #[.val (.int p01), .val (.int p2), .val (.int u01), .val (.int u2), .val (.int lens), .val (.int (own_I np)), .val (.int (own_I nu)), .val (.ref p_), .val (.ref u_), .val (.ref ex), .val (.ref m_)] [(.int (1 : Int32))])
  refine Win.st ?_ (fun tq kq => XS.ifNo X842.here hx rfl (hb hby at_239) rfl ((if0 _ _).trans (feq (by decide : ¬ ((1 : Int32) = (0 : Int32)))).1) kq)
  refine w_aload X842 hx hby at_242 rfl rfl ?_
  refine w_aload X842 hx hby at_244 rfl rfl ?_
  refine w_aload X842 hx hby at_246 rfl rfl ?_
  refine w_bipush X842 hx hby at_248 ?_
  show Win _ _ _ _ T842 (mkF mt 250 #[.val (.int p01), .val (.int p2), .val (.int u01), .val (.int u2), .val (.int lens), .val (.int (own_I np)), .val (.int (own_I nu)), .val (.ref p_), .val (.ref u_), .val (.ref ex), .val (.ref m_)] [(.int (11 : Int32)), (.ref u_), (.ref p_), (.ref m_)])
  obtain ⟨v843, _, ⟨T843, L843, k843, n843⟩, -, X843, ⟨Lc843, hQ843, l843, rfl, rfl⟩, st843⟩ := Jvm.LawKit.callS X842 hx (y := y_56) hown830 (mvT hZ830 (ow hw 204 rfl)) (mvT hZ830 (ow hw 205 rfl)) (mvT hZ830 (ow hw 2 rfl)) (mvT hZ830 (ow hw 206 rfl)) (by decide) (own_backL (W := 0) (hok2 11 (by omega)) hZ830 (ow hw 206 rfl) (ow hw 2 rfl) (by decide) (by decide) (show Lit (s.setVm T830.vm) _ _ _ from hLit)) (g := (mkF mt 250 #[.val (.int p01), .val (.int p2), .val (.int u01), .val (.int u2), .val (.int lens), .val (.int (own_I np)), .val (.int (own_I nu)), .val (.ref p_), .val (.ref u_), .val (.ref ex), .val (.ref m_)] [(.int (11 : Int32)), (.ref u_), (.ref p_), (.ref m_)])) rfl (by rw [hml]; rfl) (argsL := [(.ref m_), (.ref p_), (.ref u_), (.int (11 : Int32))]) (rest := []) (lenOf pd_40 rfl) rfl (wz rfl) (hb hby at_250) (fun _ _ => ⟨rfl, eh842, (by decide : 24 + 0 ≤ _), (by decide : 3272 + 0 ≤ _)⟩)
  replace X843 : Stand p l e _ (s.setVm T830.vm) mt args below meth cd T843 L843 24 3272 := X843
  obtain ⟨rfl, Nq843, eh843⟩ := hQ843
  have N843 := own_fr (L := L843) l843 N842 Nq843
  refine Win.st ?_ st843
  show Win _ _ _ _ T843 (mkF mt 253 #[.val (.int p01), .val (.int p2), .val (.int u01), .val (.int u2), .val (.int lens), .val (.int (own_I np)), .val (.int (own_I nu)), .val (.ref p_), .val (.ref u_), .val (.ref ex), .val (.ref m_)] [(.int (1 : Int32))])
  refine Win.st ?_ (fun tq kq => XS.ifNo X843.here hx rfl (hb hby at_253) rfl ((if0 _ _).trans (feq (by decide : ¬ ((1 : Int32) = (0 : Int32)))).1) kq)
  refine w_aload X843 hx hby at_256 rfl rfl ?_
  refine w_aload X843 hx hby at_258 rfl rfl ?_
  refine w_aload X843 hx hby at_260 rfl rfl ?_
  refine w_bipush X843 hx hby at_262 ?_
  show Win _ _ _ _ T843 (mkF mt 264 #[.val (.int p01), .val (.int p2), .val (.int u01), .val (.int u2), .val (.int lens), .val (.int (own_I np)), .val (.int (own_I nu)), .val (.ref p_), .val (.ref u_), .val (.ref ex), .val (.ref m_)] [(.int (12 : Int32)), (.ref u_), (.ref p_), (.ref m_)])
  obtain ⟨v844, _, ⟨T844, L844, k844, n844⟩, -, X844, ⟨Lc844, hQ844, l844, rfl, rfl⟩, st844⟩ := Jvm.LawKit.callS X843 hx (y := y_56) hown830 (mvT hZ830 (ow hw 204 rfl)) (mvT hZ830 (ow hw 205 rfl)) (mvT hZ830 (ow hw 2 rfl)) (mvT hZ830 (ow hw 206 rfl)) (by decide) (own_backL (W := 0) (hok2 12 (by omega)) hZ830 (ow hw 206 rfl) (ow hw 2 rfl) (by decide) (by decide) (show Lit (s.setVm T830.vm) _ _ _ from hLit)) (g := (mkF mt 264 #[.val (.int p01), .val (.int p2), .val (.int u01), .val (.int u2), .val (.int lens), .val (.int (own_I np)), .val (.int (own_I nu)), .val (.ref p_), .val (.ref u_), .val (.ref ex), .val (.ref m_)] [(.int (12 : Int32)), (.ref u_), (.ref p_), (.ref m_)])) rfl (by rw [hml]; rfl) (argsL := [(.ref m_), (.ref p_), (.ref u_), (.int (12 : Int32))]) (rest := []) (lenOf pd_40 rfl) rfl (wz rfl) (hb hby at_264) (fun _ _ => ⟨rfl, eh843, (by decide : 24 + 0 ≤ _), (by decide : 3272 + 0 ≤ _)⟩)
  replace X844 : Stand p l e _ (s.setVm T830.vm) mt args below meth cd T844 L844 24 3272 := X844
  obtain ⟨rfl, Nq844, eh844⟩ := hQ844
  have N844 := own_fr (L := L844) l844 N843 Nq844
  refine Win.st ?_ st844
  show Win _ _ _ _ T844 (mkF mt 267 #[.val (.int p01), .val (.int p2), .val (.int u01), .val (.int u2), .val (.int lens), .val (.int (own_I np)), .val (.int (own_I nu)), .val (.ref p_), .val (.ref u_), .val (.ref ex), .val (.ref m_)] [(.int (1 : Int32))])
  refine Win.st ?_ (fun tq kq => XS.ifNo X844.here hx rfl (hb hby at_267) rfl ((if0 _ _).trans (feq (by decide : ¬ ((1 : Int32) = (0 : Int32)))).1) kq)
  refine w_aload X844 hx hby at_270 rfl rfl ?_
  refine w_aload X844 hx hby at_272 rfl rfl ?_
  refine w_aload X844 hx hby at_274 rfl rfl ?_
  refine w_bipush X844 hx hby at_276 ?_
  show Win _ _ _ _ T844 (mkF mt 278 #[.val (.int p01), .val (.int p2), .val (.int u01), .val (.int u2), .val (.int lens), .val (.int (own_I np)), .val (.int (own_I nu)), .val (.ref p_), .val (.ref u_), .val (.ref ex), .val (.ref m_)] [(.int (13 : Int32)), (.ref u_), (.ref p_), (.ref m_)])
  obtain ⟨v845, _, ⟨T845, L845, k845, n845⟩, -, X845, ⟨Lc845, hQ845, l845, rfl, rfl⟩, st845⟩ := Jvm.LawKit.callS X844 hx (y := y_56) hown830 (mvT hZ830 (ow hw 204 rfl)) (mvT hZ830 (ow hw 205 rfl)) (mvT hZ830 (ow hw 2 rfl)) (mvT hZ830 (ow hw 206 rfl)) (by decide) (own_backL (W := 0) (hok2 13 (by omega)) hZ830 (ow hw 206 rfl) (ow hw 2 rfl) (by decide) (by decide) (show Lit (s.setVm T830.vm) _ _ _ from hLit)) (g := (mkF mt 278 #[.val (.int p01), .val (.int p2), .val (.int u01), .val (.int u2), .val (.int lens), .val (.int (own_I np)), .val (.int (own_I nu)), .val (.ref p_), .val (.ref u_), .val (.ref ex), .val (.ref m_)] [(.int (13 : Int32)), (.ref u_), (.ref p_), (.ref m_)])) rfl (by rw [hml]; rfl) (argsL := [(.ref m_), (.ref p_), (.ref u_), (.int (13 : Int32))]) (rest := []) (lenOf pd_40 rfl) rfl (wz rfl) (hb hby at_278) (fun _ _ => ⟨rfl, eh844, (by decide : 24 + 0 ≤ _), (by decide : 3272 + 0 ≤ _)⟩)
  replace X845 : Stand p l e _ (s.setVm T830.vm) mt args below meth cd T845 L845 24 3272 := X845
  obtain ⟨rfl, Nq845, eh845⟩ := hQ845
  have N845 := own_fr (L := L845) l845 N844 Nq845
  refine Win.st ?_ st845
  show Win _ _ _ _ T845 (mkF mt 281 #[.val (.int p01), .val (.int p2), .val (.int u01), .val (.int u2), .val (.int lens), .val (.int (own_I np)), .val (.int (own_I nu)), .val (.ref p_), .val (.ref u_), .val (.ref ex), .val (.ref m_)] [(.int (1 : Int32))])
  refine Win.st ?_ (fun tq kq => XS.ifNo X845.here hx rfl (hb hby at_281) rfl ((if0 _ _).trans (feq (by decide : ¬ ((1 : Int32) = (0 : Int32)))).1) kq)
  refine w_aload X845 hx hby at_284 rfl rfl ?_
  refine w_aload X845 hx hby at_286 rfl rfl ?_
  refine w_aload X845 hx hby at_288 rfl rfl ?_
  refine w_bipush X845 hx hby at_290 ?_
  show Win _ _ _ _ T845 (mkF mt 292 #[.val (.int p01), .val (.int p2), .val (.int u01), .val (.int u2), .val (.int lens), .val (.int (own_I np)), .val (.int (own_I nu)), .val (.ref p_), .val (.ref u_), .val (.ref ex), .val (.ref m_)] [(.int (14 : Int32)), (.ref u_), (.ref p_), (.ref m_)])
  obtain ⟨v846, _, ⟨T846, L846, k846, n846⟩, -, X846, ⟨Lc846, hQ846, l846, rfl, rfl⟩, st846⟩ := Jvm.LawKit.callS X845 hx (y := y_56) hown830 (mvT hZ830 (ow hw 204 rfl)) (mvT hZ830 (ow hw 205 rfl)) (mvT hZ830 (ow hw 2 rfl)) (mvT hZ830 (ow hw 206 rfl)) (by decide) (own_backL (W := 0) (hok2 14 (by omega)) hZ830 (ow hw 206 rfl) (ow hw 2 rfl) (by decide) (by decide) (show Lit (s.setVm T830.vm) _ _ _ from hLit)) (g := (mkF mt 292 #[.val (.int p01), .val (.int p2), .val (.int u01), .val (.int u2), .val (.int lens), .val (.int (own_I np)), .val (.int (own_I nu)), .val (.ref p_), .val (.ref u_), .val (.ref ex), .val (.ref m_)] [(.int (14 : Int32)), (.ref u_), (.ref p_), (.ref m_)])) rfl (by rw [hml]; rfl) (argsL := [(.ref m_), (.ref p_), (.ref u_), (.int (14 : Int32))]) (rest := []) (lenOf pd_40 rfl) rfl (wz rfl) (hb hby at_292) (fun _ _ => ⟨rfl, eh845, (by decide : 24 + 0 ≤ _), (by decide : 3272 + 0 ≤ _)⟩)
  replace X846 : Stand p l e _ (s.setVm T830.vm) mt args below meth cd T846 L846 24 3272 := X846
  obtain ⟨rfl, Nq846, eh846⟩ := hQ846
  have N846 := own_fr (L := L846) l846 N845 Nq846
  refine Win.st ?_ st846
  show Win _ _ _ _ T846 (mkF mt 295 #[.val (.int p01), .val (.int p2), .val (.int u01), .val (.int u2), .val (.int lens), .val (.int (own_I np)), .val (.int (own_I nu)), .val (.ref p_), .val (.ref u_), .val (.ref ex), .val (.ref m_)] [(.int (1 : Int32))])
  refine Win.st ?_ (fun tq kq => XS.ifNo X846.here hx rfl (hb hby at_295) rfl ((if0 _ _).trans (feq (by decide : ¬ ((1 : Int32) = (0 : Int32)))).1) kq)
  refine w_aload X846 hx hby at_298 rfl rfl ?_
  refine w_aload X846 hx hby at_300 rfl rfl ?_
  refine w_aload X846 hx hby at_302 rfl rfl ?_
  refine w_bipush X846 hx hby at_304 ?_
  show Win _ _ _ _ T846 (mkF mt 306 #[.val (.int p01), .val (.int p2), .val (.int u01), .val (.int u2), .val (.int lens), .val (.int (own_I np)), .val (.int (own_I nu)), .val (.ref p_), .val (.ref u_), .val (.ref ex), .val (.ref m_)] [(.int (15 : Int32)), (.ref u_), (.ref p_), (.ref m_)])
  obtain ⟨v847, _, ⟨T847, L847, k847, n847⟩, -, X847, ⟨Lc847, hQ847, l847, rfl, rfl⟩, st847⟩ := Jvm.LawKit.callS X846 hx (y := y_56) hown830 (mvT hZ830 (ow hw 204 rfl)) (mvT hZ830 (ow hw 205 rfl)) (mvT hZ830 (ow hw 2 rfl)) (mvT hZ830 (ow hw 206 rfl)) (by decide) (own_backL (W := 0) (hok2 15 (by omega)) hZ830 (ow hw 206 rfl) (ow hw 2 rfl) (by decide) (by decide) (show Lit (s.setVm T830.vm) _ _ _ from hLit)) (g := (mkF mt 306 #[.val (.int p01), .val (.int p2), .val (.int u01), .val (.int u2), .val (.int lens), .val (.int (own_I np)), .val (.int (own_I nu)), .val (.ref p_), .val (.ref u_), .val (.ref ex), .val (.ref m_)] [(.int (15 : Int32)), (.ref u_), (.ref p_), (.ref m_)])) rfl (by rw [hml]; rfl) (argsL := [(.ref m_), (.ref p_), (.ref u_), (.int (15 : Int32))]) (rest := []) (lenOf pd_40 rfl) rfl (wz rfl) (hb hby at_306) (fun _ _ => ⟨rfl, eh846, (by decide : 24 + 0 ≤ _), (by decide : 3272 + 0 ≤ _)⟩)
  replace X847 : Stand p l e _ (s.setVm T830.vm) mt args below meth cd T847 L847 24 3272 := X847
  obtain ⟨rfl, Nq847, eh847⟩ := hQ847
  have N847 := own_fr (L := L847) l847 N846 Nq847
  refine Win.st ?_ st847
  show Win _ _ _ _ T847 (mkF mt 309 #[.val (.int p01), .val (.int p2), .val (.int u01), .val (.int u2), .val (.int lens), .val (.int (own_I np)), .val (.int (own_I nu)), .val (.ref p_), .val (.ref u_), .val (.ref ex), .val (.ref m_)] [(.int (1 : Int32))])
  refine Win.st ?_ (fun tq kq => XS.ifNo X847.here hx rfl (hb hby at_309) rfl ((if0 _ _).trans (feq (by decide : ¬ ((1 : Int32) = (0 : Int32)))).1) kq)
  refine w_iconst X847 hx hby at_312 ?_
  show Win _ _ _ _ T847 (mkF mt 313 #[.val (.int p01), .val (.int p2), .val (.int u01), .val (.int u2), .val (.int lens), .val (.int (own_I np)), .val (.int (own_I nu)), .val (.ref p_), .val (.ref u_), .val (.ref ex), .val (.ref m_)] [(.int (1 : Int32))])
  refine Win.st ?_ (fun tq kq => XS.goto X847.here hx rfl (pc0 := 313) (pc' := 317) rfl (hb hby at_313) (by decide) (by decide) kq)
  show Win _ _ _ _ T847 (mkF mt 317 #[.val (.int p01), .val (.int p2), .val (.int u01), .val (.int u2), .val (.int lens), .val (.int (own_I np)), .val (.int (own_I nu)), .val (.ref p_), .val (.ref u_), .val (.ref ex), .val (.ref m_)] [(.int (1 : Int32))])
  exact Win.retNX (s := s) (vm₁ := T830.vm) X847 hS830 hk830 hx hlk eh847 (t := .boolean) (z' := (1 : Int32)) hrt (by simp) (hb hby at_317) (by decide) (by decide) rfl trivial ⟨rfl, N847⟩
set_option maxRecDepth 65536 in
set_option maxHeartbeats 40000000 in
theorem comes_1 {Post : Tables → Env → Array Value → State → Outcome → State → Prop} (hpost : ∀ tb e args s v u, (limb_1_1.after args s (.returned v) u = true ∧ limb_1_2.after args s (.returned v) u = true ∧ True) → ReturnedEndW s (.returned v) u (Jvm.fieldLocs frame_1_writes args s ++ Jvm.arrayLocs frame_1_arrays args s ++ Jvm.staticLocs frame_1_statics s) 48 9984 → Post tb e args s (.returned v) u) :
    ArmFor flags0 classFile x code maxLocals ret World_1 tables_1 room_1 Calls_1 rest_1 Pre_1 Post := by
  intro l hfl _ _ p e ha hc hk s m args below hf hA hF happ hP
  obtain ⟨hcalls, hrest, hpre⟩ := hP
  obtain ⟨-, -, -, hnamed, -, -, -, hat⟩ := (Spec.applies_iff hf).mp happ
  obtain ⟨hg, hn⟩ := and_e (Cond.before_iff.mp (show (Jvm.Cond.and given_1 narrow_1).before args s = true from hpre))
  obtain ⟨ga0, gb0⟩ := and_e hg
  obtain ⟨ga1, gb1⟩ := and_e gb0
  obtain ⟨ga2, gb2⟩ := and_e gb1
  obtain ⟨ga3, gb3⟩ := and_e gb2
  obtain ⟨ga4, gb4⟩ := and_e gb3
  obtain ⟨w0, w1, w2, w3, w4, rfl⟩ : ∃ w0 w1 w2 w3 w4 : Value, args = #[w0, w1, w2, w3, w4] := by
    have hs : args.size = 5 := by simpa [Cond.value, given_1] using ga0
    obtain ⟨L⟩ := args
    match L, hs with
    | [w0, w1, w2, w3, w4], _ => exact ⟨w0, w1, w2, w3, w4, rfl⟩
  have hw := fun d (hd : d ∈ tables_1) => atoms_spec (ws := Jvm.Cond.code x code maxLocals ret :: tables_1) hat d (List.mem_cons_of_mem _ hd)
  have hfit : Fit s := fun {y c} hc i hi => by
    obtain ⟨ha, rfl⟩ := Array.getElem?_eq_some_iff.mp hc
    have q := List.all_eq_true.mp ((Array.all_eq_true_iff_forall_mem.mp hF) _ (Array.getElem_mem ha)) i (List.mem_range.mpr hi)
    simpa [Array.getElem?_eq_getElem hi] using q
  obtain ⟨hsets, hown0⟩ := atoms_of _ (rest_1_c_eq ▸ (show rest_1_c.before _ s = true from hrest))
  have hr0 := Cond.before_iff.mp hown0
  obtain ⟨i0, ei0⟩ := is_v ga1
  obtain rfl : w0 = (.int i0) := Option.some.inj ei0
  obtain ⟨i1, ei1⟩ := is_v ga2
  obtain rfl : w1 = (.int i1) := Option.some.inj ei1
  obtain ⟨i2, ei2⟩ := is_v ga3
  obtain rfl : w2 = (.int i2) := Option.some.inj ei2
  obtain ⟨i3, ei3⟩ := is_v ga4
  obtain rfl : w3 = (.int i3) := Option.some.inj ei3
  obtain ⟨i4, ei4⟩ := is_v gb4
  obtain rfl : w4 = (.int i4) := Option.some.inj ei4
  obtain ⟨cs, hcs0⟩ := is_v (Cond.before_iff.mp (hsets _ (List.mem_of_getElem? (i := 1) rfl)))
  have hcs : ¬ cs = (0 : Int32) := fun q => by
    have z := Cond.before_iff.mp (hsets _ (List.mem_of_getElem? (i := 2) rfl))
    have z2 := not_v z
    have z3 := eq_i hcs0 (Term.int_eval (0 : Int32)) (by rw [q])
    rw [z3] at z2
    simp at z2
  have S0 := Sta.start hcs0 (Or.inl (hsets _ (List.mem_of_getElem? (i := 0) rfl)))
  obtain ⟨u, hu0, hu⟩ := isR_v (Cond.before_iff.mp (hsets _ (List.mem_of_getElem? (i := 8) rfl)))
  have S1 := Sta.start hu0 (Or.inl (hsets _ (List.mem_of_getElem? (i := 7) rfl)))
  have S2 := Sta.start (eqv_i (Term.int_eval (1 : Int32)) (Cond.before_iff.mp (hsets _ (List.mem_of_getElem? (i := 32) rfl)))) (Or.inl (hsets _ (List.mem_of_getElem? (i := 31) rfl)))
  have S3 := Sta.start (eqv_i (Term.int_eval (0 : Int32)) (Cond.before_iff.mp (hsets _ (List.mem_of_getElem? (i := 35) rfl)))) (Or.inl (hsets _ (List.mem_of_getElem? (i := 34) rfl)))
  have S4 := Sta.start (eqv_i (Term.int_eval (8 : Int32)) (Cond.before_iff.mp (hsets _ (List.mem_of_getElem? (i := 38) rfl)))) (Or.inl (hsets _ (List.mem_of_getElem? (i := 37) rfl)))
  have ST : own_St s := ⟨cs, u, S0, hcs, S1, hu, S2, S3, S4⟩
  have hlt : l.stackTraces = true := by unfold Launch.stackTraces; rw [hfl]; decide
  have h2r := two_refs hfit (ow hw 189 rfl) (ow hw 190 rfl)
  have hC : CHv s own_EL s.vm s.heap := CHv.start (own_EW hw) (fun p hp => hcalls.2.2.1 p hp) (hsets _ (List.mem_of_getElem? (i := 2) rfl)) (ow hw 19 rfl) (ow hw 5 rfl)
  obtain ⟨n, o, h1, h2, h3, _, L, rfl, ⟨rfl, N⟩, -, hq⟩ := rm_law l s _ hw tables_1 i0 i1 i2 i3 i4  s.heap s.heap.size (Nat.le_refl _) hlt h2r ST (Old.start s) p e ha hc hk s m _ below hf ((Spec.applies_iff_loose hf).mp happ).1 ⟨rfl, State.Warmed39.refl s, rfl, hC, all0⟩ ⟨hcalls.1, hcalls.2.1⟩
  refine ⟨n, _, h1, h2, h3, hpost _ _ _ _ _ _ ⟨Cond.after_iff.mpr rfl, Cond.after_iff.mpr (eq_i res_at (Term.int_eval (1)) rfl), trivial⟩ ⟨hq.1, hq.2.1, hq.2.2.1, (hq.2.2.2.sift fun y hy => Or.inr (N y hy)).mono (by decide) (by decide)⟩⟩
theorem main_1_1 : Claimed_1_1 := comes_1 fun _ _ _ _ _ _ h hF => ⟨h.1, hF⟩
theorem main_1_2 : Claimed_1_2 := comes_1 fun _ _ _ _ _ _ h hF => ⟨h.2.1, hF⟩
end Jvm.Pilot.@@N@@
namespace Jvm.Pilot.@@N@@
open Jvm Jvm.ClassFile Sem Op Lib Jvm.Free Jvm.Stand Jvm.Pilot.@@N@@.Jvm.D
/-! MADE BY PROGRAM (witnessworld.py) out of the Statement's table words and the real class files: 42 classes; the members and pool entries that the words name. The judged class is class 1, her method 3. -/
namespace start1
open Jvm.ClassFile
def u (s : String) : CpInfo := .utf8 (stringToUtf16 s)
/-- a pool by its gaps: so many unusable entries, then the entry; so many at the end -/
def gap : Nat → List CpInfo → List CpInfo
  | 0, r => r
  | n + 1, r => .unusable :: gap n r
def poolList (es : List (Nat × CpInfo)) (last : Nat) : List CpInfo := es.foldr (fun e r => gap e.1 (e.2 :: r)) (gap last [])
def pool (es : List (Nat × CpInfo)) (last : Nat) : Array CpInfo := ⟨poolList es last⟩
def fileOf (pool : Array CpInfo) (this : Nat) (attrs : Array Attribute := #[]) (ms : Array MethodInfo := #[]) (fl : Nat := 33) (sup : Nat := 0) (ifs : Array Nat := #[]) (fds : Array FieldInfo := #[]) : ClassFile where
  minorVersion := 0
  majorVersion := 65
  constantPool := pool
  accessFlags := fl
  thisClass := this
  superClass := sup
  interfaces := ifs
  fields := fds
  methods := ms
  attributes := attrs
def mi (a n d : Nat) : MethodInfo := { accessFlags := a, nameIndex := n, descriptorIndex := d, attributes := #[] }
def fi (a n d : Nat) : FieldInfo := { accessFlags := a, nameIndex := n, descriptorIndex := d, attributes := #[] }
def fd (n : String) (t : Jvm.ClassFile.FieldType) (a s : Nat) : Field := { name := n, type := t, accessFlags := a, slot := s, constantValue := 0 }
def plain (name : String) (sup : Option ClassId) : Class where
  name := name
  kind := .ordinary
  loader := none
  accessFlags := 33
  super := sup
  interfaces := #[]
  cf := none
  fields := #[]
  methods := #[]
  instanceTypes := #[]
  staticTypes := #[]
  resolved := #[]
  callSites := []
  init := .initialized
  statics := none
  mirror := none

def pool0 : Array CpInfo := pool [(5, u "<init>"), (0, u "()V"), (1, .class_ 10), (1, u "java/lang/Object"), (85, u "clone"), (0, u "()Ljava/lang/Object;")] 26

def k0c0 : Code := { maxStack := 0, maxLocals := 1, code := object_method_1_code, exceptionTable := #[], attributes := #[] }
def k0m0 : Method := { name := "<init>", desc := "()V", sig := { parameters := [], returnType := none }, accessFlags := 1, code := some k0c0 }
def k0m1 : Method := { name := "clone", desc := "()Ljava/lang/Object;", sig := { parameters := [], returnType := some (.object "java/lang/Object") }, accessFlags := 260, code := none }
/-- java/lang/Object -/
def k0 : Class := { plain "java/lang/Object" none with
  accessFlags := 33
  interfaces := #[]
  cf := some (fileOf pool0 8 #[] #[mi 1 5 6, mi 260 96 97] 33 0 #[] #[])
  fields := #[]
  methods := #[k0m0, k0m1]
  instanceTypes := #[]
  staticTypes := #[]
  resolved := Array.replicate 124 none
  statics := none }

def pool1 : Array CpInfo := pool [(2, .class_ 4), (1, u "java/lang/Object"), (0, u "<init>"), (0, u "()V"), (0, .class_ 8), (0, u "java/lang/String"), (0, .methodref 7 10), (0, .nameAndType 5 11), (0, u "([C)V"), (0, .methodref 7 13), (0, .nameAndType 14 15), (0, u "valueOf"), (0, u "(C)Ljava/lang/String;"), (0, .methodref 7 17), (0, .nameAndType 18 19), (0, u "length"), (0, u "()I"), (0, .string 21), (0, u " (usage: "), (0, .methodref 7 23), (0, .nameAndType 24 25), (0, u "charAt"), (0, u "(I)C"), (0, .methodref 27 28), (0, .class_ 29), (0, .nameAndType 30 31), (0, u "com/example/kwerx/kwerx/cli/CommandLineUsageErrorPinLaw"), (0, u "mk"), (0, u "(ICCC)Ljava/lang/String;"), (0, .methodref 33 34), (0, .class_ 35), (0, .nameAndType 36 37), (0, u "com/example/kwerx/kwerx/cli/CommandLine"), (0, u "usageError"), (0, u "(Ljava/lang/String;Ljava/lang/String;)Lcom/example/kwerx/kwerx/InvalidInputException;"), (0, .methodref 39 40), (0, .class_ 41), (0, .nameAndType 42 43), (0, u "com/example/kwerx/kwerx/InvalidInputException"), (0, u "getMessage"), (0, u "()Ljava/lang/String;"), (0, .methodref 27 45), (0, .nameAndType 46 47), (0, u "ok"), (0, u "(Ljava/lang/String;Ljava/lang/String;Ljava/lang/String;I)Z"), (3, u "law"), (0, u "(IIIII)Z")] 2

def k1m0 : Method := { name := "<init>", desc := "()V", sig := { parameters := [], returnType := none }, accessFlags := 2, code := none }
def k1c1 : Code := { maxStack := 6, maxLocals := 4, code := method_2_code, exceptionTable := #[], attributes := #[] }
def k1m1 : Method := { name := "mk", desc := "(ICCC)Ljava/lang/String;", sig := { parameters := [.int, .char, .char, .char], returnType := some (.object "java/lang/String") }, accessFlags := 10, code := some k1c1 }
def k1c2 : Code := { maxStack := 3, maxLocals := 7, code := method_3_code, exceptionTable := #[], attributes := #[] }
def k1m2 : Method := { name := "ok", desc := "(Ljava/lang/String;Ljava/lang/String;Ljava/lang/String;I)Z", sig := { parameters := [(.object "java/lang/String"), (.object "java/lang/String"), (.object "java/lang/String"), .int], returnType := some .boolean }, accessFlags := 10, code := some k1c2 }
def k1c3 : Code := { maxStack := 4, maxLocals := 11, code := code, exceptionTable := #[], attributes := #[] }
def k1m3 : Method := { name := "law", desc := "(IIIII)Z", sig := { parameters := [.int, .int, .int, .int, .int], returnType := some .boolean }, accessFlags := 9, code := some k1c3 }
/-- com/example/kwerx/kwerx/cli/CommandLineUsageErrorPinLaw -/
def k1 : Class := { plain "com/example/kwerx/kwerx/cli/CommandLineUsageErrorPinLaw" (some 0) with
  accessFlags := 49
  interfaces := #[]
  cf := some (fileOf pool1 27 #[] #[mi 2 5 6, mi 10 30 31, mi 10 46 47, mi 9 51 52] 49 2 #[] #[])
  fields := #[]
  methods := #[k1m0, k1m1, k1m2, k1m3]
  instanceTypes := #[]
  staticTypes := #[]
  resolved := Array.replicate 55 none
  statics := none }

def pool2 : Array CpInfo := pool [(1, .class_ 2), (0, u "java/io/Serializable"), (0, .class_ 4), (0, u "java/lang/Object")] 2

/-- java/io/Serializable -/
def k2 : Class := { plain "java/io/Serializable" (some 0) with
  accessFlags := 1537
  interfaces := #[]
  cf := some (fileOf pool2 1 #[] #[] 1537 3 #[] #[])
  fields := #[]
  methods := #[]
  instanceTypes := #[]
  staticTypes := #[]
  resolved := Array.replicate 7 none
  statics := none }

def pool3 : Array CpInfo := pool [(1, .class_ 2), (0, u "java/lang/Comparable"), (0, .class_ 4), (0, u "java/lang/Object")] 7

/-- java/lang/Comparable -/
def k3 : Class := { plain "java/lang/Comparable" (some 0) with
  accessFlags := 1537
  interfaces := #[]
  cf := some (fileOf pool3 1 #[] #[] 1537 3 #[] #[])
  fields := #[]
  methods := #[]
  instanceTypes := #[]
  staticTypes := #[]
  resolved := Array.replicate 12 none
  statics := none }

def pool4 : Array CpInfo := pool [(2, .class_ 4), (1, u "java/lang/CharSequence"), (42, .class_ 48), (0, u "java/lang/CharSequence$1CodePointIterator"), (10, .class_ 60), (0, u "java/lang/CharSequence$1CharIterator"), (5, .class_ 67), (0, u "java/lang/Object")] 63

/-- java/lang/CharSequence -/
def k4 : Class := { plain "java/lang/CharSequence" (some 0) with
  accessFlags := 1537
  interfaces := #[]
  cf := some (fileOf pool4 2 #[.nestMembers #[47, 59]] #[] 1537 66 #[] #[])
  fields := #[]
  methods := #[]
  instanceTypes := #[]
  staticTypes := #[]
  resolved := Array.replicate 131 none
  statics := none }

def pool5 : Array CpInfo := pool [(1, .class_ 2), (0, u "java/lang/constant/Constable"), (0, .class_ 4), (0, u "java/lang/Object")] 6

/-- java/lang/constant/Constable -/
def k5 : Class := { plain "java/lang/constant/Constable" (some 0) with
  accessFlags := 1537
  interfaces := #[]
  cf := some (fileOf pool5 1 #[] #[] 1537 3 #[] #[])
  fields := #[]
  methods := #[]
  instanceTypes := #[]
  staticTypes := #[]
  resolved := Array.replicate 11 none
  statics := none }

def pool6 : Array CpInfo := pool [(1, .class_ 2), (0, u "java/lang/constant/ConstantDesc"), (0, .class_ 4), (0, u "java/lang/Object")] 32

/-- java/lang/constant/ConstantDesc -/
def k6 : Class := { plain "java/lang/constant/ConstantDesc" (some 0) with
  accessFlags := 1537
  interfaces := #[]
  cf := some (fileOf pool6 1 #[] #[] 1537 3 #[] #[])
  fields := #[]
  methods := #[]
  instanceTypes := #[]
  staticTypes := #[]
  resolved := Array.replicate 37 none
  statics := none }

def pool7 : Array CpInfo := pool [(1, .methodref 2 3), (0, .class_ 4), (0, .nameAndType 5 6), (0, u "java/lang/Object"), (0, u "<init>"), (0, u "()V"), (0, .string 8), (0, u ""), (0, .fieldref 10 11), (0, .class_ 12), (0, .nameAndType 13 14), (0, u "java/lang/String"), (0, u "value"), (0, u "[B"), (0, .fieldref 10 16), (0, .nameAndType 17 18), (0, u "coder"), (0, u "B"), (2, u "hash"), (0, u "I"), (2, u "hashIsZero"), (0, u "Z"), (0, .methodref 10 28), (0, .nameAndType 5 29), (0, u "([CIILjava/lang/Void;)V"), (6, u "checkBoundsOffCount"), (0, u "(III)I"), (0, .fieldref 10 39), (0, .nameAndType 40 26), (0, u "COMPACT_STRINGS"), (1, .class_ 44), (1, u "java/lang/StringUTF16"), (0, u "compress"), (1, .methodref 42 48), (0, .nameAndType 49 50), (0, u "coderFromArrayLen"), (0, u "([BI)B"), (2, u "toBytes"), (0, .methodref 55 56), (0, .class_ 57), (0, .nameAndType 58 59), (0, u "java/util/Arrays"), (0, u "copyOfRange"), (0, u "([BII)[B"), (46, .methodref 107 108), (0, .class_ 109), (0, .nameAndType 110 111), (0, u "java/lang/StringLatin1"), (0, u "inflate"), (0, u "([BI[BII)V"), (30, u "()Z"), (34, .methodref 42 178), (0, .nameAndType 45 179), (0, u "([CII)[B"), (13, .class_ 195), (1, u "java/lang/System"), (13, .methodref 10 210), (0, .nameAndType 5 211), (0, u "([BB)V"), (0, .methodref 193 213), (0, .nameAndType 214 215), (0, u "arraycopy"), (0, u "(Ljava/lang/Object;ILjava/lang/Object;II)V"), (118, u "()I"), (0, .methodref 10 336), (0, .nameAndType 17 337), (0, u "()B"), (2, u "()[B"), (22, u "([BI)C"), (5, u "(C)Z"), (21, u "(II)V"), (35, u "(I)C"), (61, .methodref 10 490), (0, .nameAndType 5 491), (0, u "(Ljava/lang/AbstractStringBuilder;Ljava/lang/Void;)V"), (0, .methodref 10 493), (0, .nameAndType 494 142), (0, u "isLatin1"), (0, .methodref 107 496), (0, .nameAndType 497 363), (0, u "charAt"), (0, .methodref 42 496), (2, u "checkIndex"), (4, .nameAndType 507 334), (0, u "length"), (24, u "getBytes"), (16, .methodref 550 506), (0, .class_ 551), (0, u "java/lang/AbstractStringBuilder"), (0, .methodref 550 553), (0, .nameAndType 554 340), (0, u "getValue"), (20, .class_ 576), (0, u "java/lang/CharSequence"), (22, u "CASE_INSENSITIVE_ORDER"), (0, u "Ljava/util/Comparator;"), (181, u "valueOf"), (0, u "(C)Ljava/lang/String;"), (37, u "([BIB)V"), (188, u "([C)V"), (4, .methodref 107 1016), (0, .nameAndType 1017 369), (0, u "canEncode"), (0, .methodref 107 1019), (0, .nameAndType 53 1020), (0, u "(C)[B"), (0, .methodref 42 1019), (25, .methodref 550 493), (0, .fieldref 550 1049), (0, .nameAndType 1050 26), (0, u "maybeLatin1"), (2, .fieldref 1054 1055), (0, .class_ 1056), (0, .nameAndType 1057 1058), (0, u "jdk/internal/util/Preconditions"), (0, u "SIOOBE_FORMATTER"), (0, u "Ljava/util/function/BiFunction;"), (0, .methodref 1054 1060), (0, .nameAndType 501 1061), (0, u "(IILjava/util/function/BiFunction;)I"), (2, u "(IIILjava/util/function/BiFunction;)I"), (0, .methodref 1054 1066), (0, .nameAndType 1067 1064), (0, u "checkFromIndexSize"), (33, u "serialPersistentFields"), (0, u "[Ljava/io/ObjectStreamField;"), (0, .class_ 1104), (0, u "java/lang/String$CaseInsensitiveComparator"), (1, .class_ 1107), (0, u "java/io/Serializable"), (0, .class_ 1109), (0, u "java/lang/Comparable"), (0, .class_ 1111), (0, u "java/lang/constant/Constable"), (0, .class_ 1113), (0, u "java/lang/constant/ConstantDesc"), (2, u "serialVersionUID"), (0, u "J"), (3, u "REPL"), (0, u "C"), (2, u "LATIN1"), (1, u "UTF16"), (105, u "(Ljava/lang/StringBuilder;)V")] 217

def k7m0 : Method := { name := "<init>", desc := "()V", sig := { parameters := [], returnType := none }, accessFlags := 1, code := none }
def k7c1 : Code := { maxStack := 5, maxLocals := 2, code := jdk_42_method_3_code, exceptionTable := #[], attributes := #[] }
def k7m1 : Method := { name := "<init>", desc := "([C)V", sig := { parameters := [(.array .char)], returnType := none }, accessFlags := 1, code := some k7c1 }
def k7c2 : Code := { maxStack := 3, maxLocals := 2, code := jdk_42_method_53_code, exceptionTable := #[], attributes := #[] }
def k7m2 : Method := { name := "<init>", desc := "(Ljava/lang/StringBuilder;)V", sig := { parameters := [(.object "java/lang/StringBuilder")], returnType := none }, accessFlags := 1, code := some k7c2 }
def k7c3 : Code := { maxStack := 2, maxLocals := 1, code := jdk_42_method_54_code, exceptionTable := #[], attributes := #[] }
def k7m3 : Method := { name := "length", desc := "()I", sig := { parameters := [], returnType := some .int }, accessFlags := 1, code := some k7c3 }
def k7c4 : Code := { maxStack := 2, maxLocals := 2, code := jdk_42_method_56_code, exceptionTable := #[], attributes := #[] }
def k7m4 : Method := { name := "charAt", desc := "(I)C", sig := { parameters := [.int], returnType := some .char }, accessFlags := 1, code := some k7c4 }
def k7c5 : Code := { maxStack := 4, maxLocals := 1, code := jdk_42_method_139_code, exceptionTable := #[], attributes := #[] }
def k7m5 : Method := { name := "valueOf", desc := "(C)Ljava/lang/String;", sig := { parameters := [.char], returnType := some (.object "java/lang/String") }, accessFlags := 9, code := some k7c5 }
def k7c6 : Code := { maxStack := 5, maxLocals := 4, code := jdk_42_method_147_code, exceptionTable := #[], attributes := #[] }
def k7m6 : Method := { name := "getBytes", desc := "([BIB)V", sig := { parameters := [(.array .byte), .int, .byte], returnType := none }, accessFlags := 0, code := some k7c6 }
def k7c7 : Code := { maxStack := 4, maxLocals := 6, code := jdk_42_method_149_code, exceptionTable := #[], attributes := #[] }
def k7m7 : Method := { name := "<init>", desc := "([CIILjava/lang/Void;)V", sig := { parameters := [(.array .char), .int, .int, (.object "java/lang/Void")], returnType := none }, accessFlags := 2, code := some k7c7 }
def k7c8 : Code := { maxStack := 5, maxLocals := 5, code := jdk_42_method_150_code, exceptionTable := #[], attributes := #[] }
def k7m8 : Method := { name := "<init>", desc := "(Ljava/lang/AbstractStringBuilder;Ljava/lang/Void;)V", sig := { parameters := [(.object "java/lang/AbstractStringBuilder"), (.object "java/lang/Void")], returnType := none }, accessFlags := 0, code := some k7c8 }
def k7c9 : Code := { maxStack := 2, maxLocals := 3, code := jdk_42_method_151_code, exceptionTable := #[], attributes := #[] }
def k7m9 : Method := { name := "<init>", desc := "([BB)V", sig := { parameters := [(.array .byte), .byte], returnType := none }, accessFlags := 0, code := some k7c9 }
def k7c10 : Code := { maxStack := 1, maxLocals := 1, code := jdk_42_method_152_code, exceptionTable := #[], attributes := #[] }
def k7m10 : Method := { name := "coder", desc := "()B", sig := { parameters := [], returnType := some .byte }, accessFlags := 0, code := some k7c10 }
def k7c11 : Code := { maxStack := 1, maxLocals := 1, code := jdk_42_method_154_code, exceptionTable := #[], attributes := #[] }
def k7m11 : Method := { name := "isLatin1", desc := "()Z", sig := { parameters := [], returnType := some .boolean }, accessFlags := 0, code := some k7c11 }
def k7c12 : Code := { maxStack := 3, maxLocals := 2, code := jdk_42_method_155_code, exceptionTable := #[], attributes := #[] }
def k7m12 : Method := { name := "checkIndex", desc := "(II)V", sig := { parameters := [.int, .int], returnType := none }, accessFlags := 8, code := some k7c12 }
def k7c13 : Code := { maxStack := 4, maxLocals := 3, code := jdk_42_method_157_code, exceptionTable := #[], attributes := #[] }
def k7m13 : Method := { name := "checkBoundsOffCount", desc := "(III)I", sig := { parameters := [.int, .int, .int], returnType := some .int }, accessFlags := 8, code := some k7c13 }
/-- java/lang/String -/
def k7 : Class := { plain "java/lang/String" (some 0) with
  accessFlags := 49
  interfaces := #[2, 3, 4, 5, 6]
  cf := some (fileOf pool7 10 #[.nestMembers #[1103]] #[mi 1 5 6, mi 1 5 1010, mi 1 5 1233, mi 1 507 334, mi 1 497 427, mi 9 782 783, mi 0 532 821, mi 2 5 29, mi 0 5 491, mi 0 5 211, mi 0 17 337, mi 0 494 142, mi 8 501 391, mi 8 36 37] 49 2 #[1106, 1108, 575, 1110, 1112] #[fi 18 13 14, fi 18 17 18, fi 2 21 22, fi 2 25 26, fi 26 1116 1117, fi 24 40 26, fi 26 1101 1102, fi 26 1121 1122, fi 25 599 600, fi 24 1125 18, fi 24 1127 18])
  fields := #[fd "value" (.array .byte) 18 0, fd "coder" .byte 18 1, fd "hash" .int 2 2, fd "hashIsZero" .boolean 2 3, fd "serialVersionUID" .long 26 0, fd "COMPACT_STRINGS" .boolean 24 1, fd "serialPersistentFields" (.array (.object "java/io/ObjectStreamField")) 26 2, fd "REPL" .char 26 3, fd "CASE_INSENSITIVE_ORDER" (.object "java/util/Comparator") 25 4, fd "LATIN1" .byte 24 5, fd "UTF16" .byte 24 6]
  methods := #[k7m0, k7m1, k7m2, k7m3, k7m4, k7m5, k7m6, k7m7, k7m8, k7m9, k7m10, k7m11, k7m12, k7m13]
  instanceTypes := #[(.array .byte), .byte, .int, .boolean]
  staticTypes := #[.long, .boolean, (.array (.object "java/io/ObjectStreamField")), .char, (.object "java/util/Comparator"), .byte, .byte]
  resolved := Array.replicate 1451 none
  statics := some 0 }

def pool8 : Array CpInfo := pool [(2, .class_ 4), (0, .nameAndType 5 6), (0, u "java/lang/Object"), (0, u "<init>"), (0, u "()V"), (1, .class_ 10), (1, u "com/example/kwerx/kwerx/cli/CommandLine"), (0, u "usage"), (0, u "Ljava/lang/String;"), (2, u "options"), (0, u "Ljava/util/Map;"), (2, u "flags"), (0, u "Ljava/util/Set;"), (2, u "operands"), (0, u "Ljava/util/List;"), (46, .class_ 72), (0, u "java/lang/StringBuilder"), (0, .methodref 71 3), (2, .methodref 71 77), (0, .nameAndType 78 79), (0, u "append"), (0, u "(Ljava/lang/String;)Ljava/lang/StringBuilder;"), (2, .methodref 71 83), (0, .nameAndType 84 85), (0, u "toString"), (0, u "()Ljava/lang/String;"), (2, u "usageError"), (0, u "(Ljava/lang/String;Ljava/lang/String;)Lcom/example/kwerx/kwerx/InvalidInputException;"), (71, .class_ 162), (0, u "com/example/kwerx/kwerx/InvalidInputException"), (0, .string 164), (0, u " (usage: "), (0, .string 166), (0, u ")"), (0, .methodref 161 168), (0, .nameAndType 5 169), (0, u "(Ljava/lang/String;)V")] 42

def k8c0 : Code := { maxStack := 4, maxLocals := 2, code := prog_4_method_13_code, exceptionTable := #[], attributes := #[] }
def k8m0 : Method := { name := "usageError", desc := "(Ljava/lang/String;Ljava/lang/String;)Lcom/example/kwerx/kwerx/InvalidInputException;", sig := { parameters := [(.object "java/lang/String"), (.object "java/lang/String")], returnType := some (.object "com/example/kwerx/kwerx/InvalidInputException") }, accessFlags := 8, code := some k8c0 }
/-- com/example/kwerx/kwerx/cli/CommandLine -/
def k8 : Class := { plain "com/example/kwerx/kwerx/cli/CommandLine" (some 0) with
  accessFlags := 32
  interfaces := #[]
  cf := some (fileOf pool8 8 #[] #[mi 8 88 89] 32 2 #[] #[fi 18 11 12, fi 18 15 16, fi 18 19 20, fi 18 23 24])
  fields := #[fd "usage" (.object "java/lang/String") 18 0, fd "options" (.object "java/util/Map") 18 1, fd "flags" (.object "java/util/Set") 18 2, fd "operands" (.object "java/util/List") 18 3]
  methods := #[k8m0]
  instanceTypes := #[(.object "java/lang/String"), (.object "java/util/Map"), (.object "java/util/Set"), (.object "java/util/List")]
  staticTypes := #[]
  resolved := Array.replicate 212 none
  statics := none }

def pool9 : Array CpInfo := pool [(1, .methodref 2 3), (0, .class_ 4), (0, .nameAndType 5 6), (0, u "java/lang/Object"), (0, u "<init>"), (0, u "()V"), (0, .fieldref 8 9), (0, .class_ 10), (0, .nameAndType 11 12), (0, u "java/lang/Throwable"), (0, u "cause"), (0, u "Ljava/lang/Throwable;"), (0, .fieldref 8 14), (0, .nameAndType 15 16), (0, u "UNASSIGNED_STACK"), (0, u "[Ljava/lang/StackTraceElement;"), (0, .fieldref 8 18), (0, .nameAndType 19 16), (0, u "stackTrace"), (0, .fieldref 8 21), (0, .nameAndType 22 23), (0, u "SUPPRESSED_SENTINEL"), (0, u "Ljava/util/List;"), (0, .fieldref 8 25), (0, .nameAndType 26 23), (0, u "suppressedExceptions"), (0, .methodref 8 28), (0, .nameAndType 29 30), (0, u "fillInStackTrace"), (0, u "()Ljava/lang/Throwable;"), (0, .fieldref 8 32), (0, .nameAndType 33 34), (0, u "detailMessage"), (0, u "Ljava/lang/String;"), (3, u "()Ljava/lang/String;"), (2, u "getMessage"), (51, .class_ 94), (0, u "java/lang/Throwable$WrappedPrintStream"), (6, .class_ 103), (1, u "java/lang/Throwable$PrintStreamOrWriter"), (61, u "$assertionsDisabled"), (0, u "Z"), (26, .class_ 194), (0, u "java/lang/Throwable$WrappedPrintWriter"), (3, .fieldref 8 199), (0, .nameAndType 200 201), (0, u "backtrace"), (0, u "Ljava/lang/Object;"), (0, .methodref 8 203), (0, .nameAndType 29 204), (0, u "(I)Ljava/lang/Throwable;"), (6, u "depth"), (0, u "I"), (10, u "(Ljava/lang/String;)V"), (45, .class_ 271), (1, u "java/lang/Throwable$SentinelHolder"), (32, u "EMPTY_THROWABLE_ARRAY"), (0, u "[Ljava/lang/Throwable;"), (12, .class_ 319), (0, u "java/io/Serializable"), (0, u "serialVersionUID"), (0, u "J"), (5, u "NULL_CAUSE_MESSAGE"), (0, u "SELF_SUPPRESSION_MESSAGE"), (0, u "CAUSE_CAPTION"), (0, u "SUPPRESSED_CAPTION")] 73

def k9c0 : Code := { maxStack := 2, maxLocals := 1, code := jdk_78_method_1_code, exceptionTable := #[], attributes := #[] }
def k9m0 : Method := { name := "<init>", desc := "()V", sig := { parameters := [], returnType := none }, accessFlags := 1, code := some k9c0 }
def k9c1 : Code := { maxStack := 2, maxLocals := 2, code := jdk_78_method_2_code, exceptionTable := #[], attributes := #[] }
def k9m1 : Method := { name := "<init>", desc := "(Ljava/lang/String;)V", sig := { parameters := [(.object "java/lang/String")], returnType := none }, accessFlags := 1, code := some k9c1 }
def k9c2 : Code := { maxStack := 1, maxLocals := 1, code := jdk_78_method_6_code, exceptionTable := #[], attributes := #[] }
def k9m2 : Method := { name := "getMessage", desc := "()Ljava/lang/String;", sig := { parameters := [], returnType := some (.object "java/lang/String") }, accessFlags := 1, code := some k9c2 }
def k9c3 : Code := { maxStack := 2, maxLocals := 1, code := jdk_78_method_18_code, exceptionTable := #[], attributes := #[] }
def k9m3 : Method := { name := "fillInStackTrace", desc := "()Ljava/lang/Throwable;", sig := { parameters := [], returnType := some (.object "java/lang/Throwable") }, accessFlags := 33, code := some k9c3 }
def k9m4 : Method := { name := "fillInStackTrace", desc := "(I)Ljava/lang/Throwable;", sig := { parameters := [.int], returnType := some (.object "java/lang/Throwable") }, accessFlags := 258, code := none }
/-- java/lang/Throwable -/
def k9 : Class := { plain "java/lang/Throwable" (some 0) with
  accessFlags := 33
  interfaces := #[2]
  cf := some (fileOf pool9 8 #[.nestMembers #[193, 93, 101, 269]] #[mi 1 5 6, mi 1 5 223, mi 1 41 38, mi 33 29 30, mi 258 29 204] 33 2 #[318] #[fi 26 320 321, fi 130 200 201, fi 2 33 34, fi 26 15 16, fi 2 11 12, fi 2 19 16, fi 130 211 212, fi 26 22 23, fi 2 26 23, fi 26 327 34, fi 26 328 34, fi 26 329 34, fi 26 330 34, fi 26 304 305, fi 4120 165 166])
  fields := #[fd "serialVersionUID" .long 26 0, fd "backtrace" (.object "java/lang/Object") 130 0, fd "detailMessage" (.object "java/lang/String") 2 1, fd "UNASSIGNED_STACK" (.array (.object "java/lang/StackTraceElement")) 26 1, fd "cause" (.object "java/lang/Throwable") 2 2, fd "stackTrace" (.array (.object "java/lang/StackTraceElement")) 2 3, fd "depth" .int 130 4, fd "SUPPRESSED_SENTINEL" (.object "java/util/List") 26 2, fd "suppressedExceptions" (.object "java/util/List") 2 5, fd "NULL_CAUSE_MESSAGE" (.object "java/lang/String") 26 3, fd "SELF_SUPPRESSION_MESSAGE" (.object "java/lang/String") 26 4, fd "CAUSE_CAPTION" (.object "java/lang/String") 26 5, fd "SUPPRESSED_CAPTION" (.object "java/lang/String") 26 6, fd "EMPTY_THROWABLE_ARRAY" (.array (.object "java/lang/Throwable")) 26 7, fd "$assertionsDisabled" .boolean 4120 8]
  methods := #[k9m0, k9m1, k9m2, k9m3, k9m4]
  instanceTypes := #[(.object "java/lang/Object"), (.object "java/lang/String"), (.object "java/lang/Throwable"), (.array (.object "java/lang/StackTraceElement")), .int, (.object "java/util/List")]
  staticTypes := #[.long, (.array (.object "java/lang/StackTraceElement")), (.object "java/util/List"), (.object "java/lang/String"), (.object "java/lang/String"), (.object "java/lang/String"), (.object "java/lang/String"), (.array (.object "java/lang/Throwable")), .boolean]
  resolved := Array.replicate 404 none
  statics := some 1 }

def pool10 : Array CpInfo := pool [(2, .class_ 4), (1, u "java/lang/Throwable"), (0, u "<init>"), (0, u "()V"), (0, .methodref 2 8), (0, .nameAndType 5 9), (0, u "(Ljava/lang/String;)V"), (9, .class_ 20), (0, u "java/lang/Exception"), (0, u "serialVersionUID"), (0, u "J")] 17

def k10m0 : Method := { name := "<init>", desc := "()V", sig := { parameters := [], returnType := none }, accessFlags := 1, code := none }
def k10c1 : Code := { maxStack := 2, maxLocals := 2, code := jdk_59_method_2_code, exceptionTable := #[], attributes := #[] }
def k10m1 : Method := { name := "<init>", desc := "(Ljava/lang/String;)V", sig := { parameters := [(.object "java/lang/String")], returnType := none }, accessFlags := 1, code := some k10c1 }
/-- java/lang/Exception -/
def k10 : Class := { plain "java/lang/Exception" (some 9) with
  accessFlags := 33
  interfaces := #[]
  cf := some (fileOf pool10 19 #[] #[mi 1 5 6, mi 1 5 9] 33 2 #[] #[fi 24 21 22])
  fields := #[fd "serialVersionUID" .long 24 0]
  methods := #[k10m0, k10m1]
  instanceTypes := #[(.object "java/lang/Object"), (.object "java/lang/String"), (.object "java/lang/Throwable"), (.array (.object "java/lang/StackTraceElement")), .int, (.object "java/util/List")]
  staticTypes := #[.long]
  resolved := Array.replicate 40 none
  statics := none }

def pool11 : Array CpInfo := pool [(1, .methodref 2 3), (0, .class_ 4), (0, .nameAndType 5 6), (0, u "java/lang/Exception"), (0, u "<init>"), (0, u "(Ljava/lang/String;)V"), (3, .class_ 11), (0, u "com/example/kwerx/kwerx/InvalidInputException"), (27, u "serialVersionUID"), (0, u "J")] 12

def k11c0 : Code := { maxStack := 2, maxLocals := 2, code := prog_1_method_1_code, exceptionTable := #[], attributes := #[] }
def k11m0 : Method := { name := "<init>", desc := "(Ljava/lang/String;)V", sig := { parameters := [(.object "java/lang/String")], returnType := none }, accessFlags := 1, code := some k11c0 }
/-- com/example/kwerx/kwerx/InvalidInputException -/
def k11 : Class := { plain "com/example/kwerx/kwerx/InvalidInputException" (some 10) with
  accessFlags := 33
  interfaces := #[]
  cf := some (fileOf pool11 10 #[] #[mi 1 5 6] 33 2 #[] #[fi 26 39 40])
  fields := #[fd "serialVersionUID" .long 26 0]
  methods := #[k11m0]
  instanceTypes := #[(.object "java/lang/Object"), (.object "java/lang/String"), (.object "java/lang/Throwable"), (.array (.object "java/lang/StackTraceElement")), .int, (.object "java/util/List")]
  staticTypes := #[.long]
  resolved := Array.replicate 53 none
  statics := none }

def pool12 : Array CpInfo := pool [(1, .class_ 2), (0, u "java/lang/Appendable"), (0, .class_ 4), (0, u "java/lang/Object")] 9

/-- java/lang/Appendable -/
def k12 : Class := { plain "java/lang/Appendable" (some 0) with
  accessFlags := 1537
  interfaces := #[]
  cf := some (fileOf pool12 1 #[] #[] 1537 3 #[] #[])
  fields := #[]
  methods := #[]
  instanceTypes := #[]
  staticTypes := #[]
  resolved := Array.replicate 14 none
  statics := none }

def pool13 : Array CpInfo := pool [(1, .class_ 2), (0, u "java/lang/String"), (0, .methodref 4 5), (0, .class_ 6), (0, .nameAndType 7 8), (0, u "java/lang/Object"), (0, u "<init>"), (0, u "()V"), (1, .class_ 12), (1, u "java/lang/AbstractStringBuilder"), (0, u "EMPTYVALUE"), (0, u "[B"), (0, .fieldref 10 16), (0, .nameAndType 17 14), (0, u "value"), (0, .fieldref 1 19), (0, .nameAndType 20 21), (0, u "COMPACT_STRINGS"), (0, u "Z"), (0, .fieldref 10 23), (0, .nameAndType 24 25), (0, u "coder"), (0, u "B"), (0, .methodref 27 28), (0, .class_ 29), (0, .nameAndType 30 31), (0, u "java/lang/StringUTF16"), (0, u "newBytesFor"), (0, u "(I)[B"), (0, .methodref 1 33), (0, .nameAndType 34 35), (0, u "length"), (0, u "()I"), (4, .methodref 1 41), (0, .nameAndType 24 42), (0, u "()B"), (2, u "append"), (0, u "(Ljava/lang/String;)Ljava/lang/AbstractStringBuilder;"), (1, .class_ 49), (0, u "java/lang/CharSequence"), (19, u "(Ljava/lang/String;)V"), (5, u "maybeLatin1"), (3, .fieldref 10 80), (0, .nameAndType 81 82), (0, u "count"), (0, u "I"), (0, .methodref 10 84), (0, .nameAndType 85 86), (0, u "isLatin1"), (0, u "()Z"), (1, .class_ 90), (1, u "java/lang/StringLatin1"), (9, .methodref 10 101), (0, .nameAndType 102 103), (0, u "ensureCapacityInternal"), (0, u "(I)V"), (21, .methodref 88 126), (0, .nameAndType 127 128), (0, u "inflate"), (0, u "([BI[BII)V"), (66, .methodref 10 196), (0, .nameAndType 127 8), (11, .methodref 10 209), (0, .nameAndType 210 211), (0, u "putStringAt"), (0, u "(ILjava/lang/String;)V"), (5, u "inflateIfNeededFor"), (2, .nameAndType 221 222), (0, u "getBytes"), (0, u "([BIB)V"), (174, .methodref 10 398), (0, .nameAndType 217 69), (0, .methodref 1 220), (3, u "()[B"), (40, .class_ 445), (0, u "java/lang/Appendable"), (106, u "getValue")] 56

def k13m0 : Method := { name := "<init>", desc := "()V", sig := { parameters := [], returnType := none }, accessFlags := 0, code := none }
def k13c1 : Code := { maxStack := 2, maxLocals := 2, code := jdk_68_method_2_code, exceptionTable := #[], attributes := #[] }
def k13m1 : Method := { name := "<init>", desc := "(I)V", sig := { parameters := [.int], returnType := none }, accessFlags := 0, code := some k13c1 }
def k13c2 : Code := { maxStack := 1, maxLocals := 1, code := jdk_68_method_6_code, exceptionTable := #[], attributes := #[] }
def k13m2 : Method := { name := "length", desc := "()I", sig := { parameters := [], returnType := some .int }, accessFlags := 1, code := some k13c2 }
def k13c3 : Code := { maxStack := 4, maxLocals := 3, code := jdk_68_method_9_code, exceptionTable := #[], attributes := #[] }
def k13m3 : Method := { name := "ensureCapacityInternal", desc := "(I)V", sig := { parameters := [.int], returnType := none }, accessFlags := 2, code := some k13c3 }
def k13c4 : Code := { maxStack := 5, maxLocals := 2, code := jdk_68_method_11_code, exceptionTable := #[], attributes := #[] }
def k13m4 : Method := { name := "inflate", desc := "()V", sig := { parameters := [], returnType := none }, accessFlags := 2, code := some k13c4 }
def k13c5 : Code := { maxStack := 3, maxLocals := 3, code := jdk_68_method_22_code, exceptionTable := #[], attributes := #[] }
def k13m5 : Method := { name := "append", desc := "(Ljava/lang/String;)Ljava/lang/AbstractStringBuilder;", sig := { parameters := [(.object "java/lang/String")], returnType := some (.object "java/lang/AbstractStringBuilder") }, accessFlags := 1, code := some k13c5 }
def k13c6 : Code := { maxStack := 1, maxLocals := 1, code := jdk_68_method_64_code, exceptionTable := #[], attributes := #[] }
def k13m6 : Method := { name := "getValue", desc := "()[B", sig := { parameters := [], returnType := some (.array .byte) }, accessFlags := 16, code := some k13c6 }
def k13c7 : Code := { maxStack := 1, maxLocals := 1, code := jdk_68_method_68_code, exceptionTable := #[], attributes := #[] }
def k13m7 : Method := { name := "isLatin1", desc := "()Z", sig := { parameters := [], returnType := some .boolean }, accessFlags := 16, code := some k13c7 }
def k13c8 : Code := { maxStack := 2, maxLocals := 2, code := jdk_68_method_71_code, exceptionTable := #[], attributes := #[] }
def k13m8 : Method := { name := "inflateIfNeededFor", desc := "(Ljava/lang/String;)V", sig := { parameters := [(.object "java/lang/String")], returnType := none }, accessFlags := 2, code := some k13c8 }
def k13c9 : Code := { maxStack := 4, maxLocals := 3, code := jdk_68_method_73_code, exceptionTable := #[], attributes := #[] }
def k13m9 : Method := { name := "putStringAt", desc := "(ILjava/lang/String;)V", sig := { parameters := [.int, (.object "java/lang/String")], returnType := none }, accessFlags := 2, code := some k13c9 }
/-- java/lang/AbstractStringBuilder -/
def k13 : Class := { plain "java/lang/AbstractStringBuilder" (some 0) with
  accessFlags := 1056
  interfaces := #[12, 4]
  cf := some (fileOf pool13 10 #[] #[mi 0 7 8, mi 0 7 103, mi 1 34 35, mi 2 102 103, mi 2 127 8, mi 1 45 46, mi 16 552 403, mi 16 85 86, mi 2 217 69, mi 2 210 211] 1056 4 #[444, 48] #[fi 0 17 14, fi 0 24 25, fi 0 75 21, fi 0 81 82, fi 26 13 14])
  fields := #[fd "value" (.array .byte) 0 0, fd "coder" .byte 0 1, fd "maybeLatin1" .boolean 0 2, fd "count" .int 0 3, fd "EMPTYVALUE" (.array .byte) 26 0]
  methods := #[k13m0, k13m1, k13m2, k13m3, k13m4, k13m5, k13m6, k13m7, k13m8, k13m9]
  instanceTypes := #[(.array .byte), .byte, .boolean, .int]
  staticTypes := #[(.array .byte)]
  resolved := Array.replicate 609 none
  statics := none }

def pool14 : Array CpInfo := pool [(1, .methodref 2 3), (0, .class_ 4), (0, .nameAndType 5 6), (0, u "java/lang/AbstractStringBuilder"), (0, u "<init>"), (0, u "(I)V"), (11, .class_ 20), (1, u "java/lang/String"), (3, .class_ 26), (1, u "java/lang/StringBuilder"), (0, u "append"), (0, u "(Ljava/lang/String;)Ljava/lang/StringBuilder;"), (0, .methodref 2 30), (0, .nameAndType 27 31), (0, u "(Ljava/lang/String;)Ljava/lang/AbstractStringBuilder;"), (105, .methodref 18 138), (0, .nameAndType 5 139), (0, u "(Ljava/lang/StringBuilder;)V"), (5, u "()V"), (10, u "()I"), (186, .methodref 2 344), (0, .nameAndType 345 156), (0, u "length"), (3, .class_ 350), (0, u "java/lang/Appendable"), (0, .class_ 352), (0, u "java/io/Serializable"), (0, .class_ 354), (0, u "java/lang/Comparable"), (0, .class_ 356), (0, u "java/lang/CharSequence"), (0, u "serialVersionUID"), (0, u "J"), (40, u "toString"), (0, u "()Ljava/lang/String;")] 21

def k14c0 : Code := { maxStack := 2, maxLocals := 1, code := jdk_67_method_1_code, exceptionTable := #[], attributes := #[] }
def k14m0 : Method := { name := "<init>", desc := "()V", sig := { parameters := [], returnType := none }, accessFlags := 1, code := some k14c0 }
def k14c1 : Code := { maxStack := 2, maxLocals := 2, code := jdk_67_method_7_code, exceptionTable := #[], attributes := #[] }
def k14m1 : Method := { name := "append", desc := "(Ljava/lang/String;)Ljava/lang/StringBuilder;", sig := { parameters := [(.object "java/lang/String")], returnType := some (.object "java/lang/StringBuilder") }, accessFlags := 1, code := some k14c1 }
def k14c2 : Code := { maxStack := 3, maxLocals := 1, code := jdk_67_method_42_code, exceptionTable := #[], attributes := #[] }
def k14m2 : Method := { name := "toString", desc := "()Ljava/lang/String;", sig := { parameters := [], returnType := some (.object "java/lang/String") }, accessFlags := 1, code := some k14c2 }
def k14c3 : Code := { maxStack := 1, maxLocals := 1, code := jdk_67_method_93_code, exceptionTable := #[], attributes := #[] }
def k14m3 : Method := { name := "length", desc := "()I", sig := { parameters := [], returnType := some .int }, accessFlags := 4161, code := some k14c3 }
/-- java/lang/StringBuilder -/
def k14 : Class := { plain "java/lang/StringBuilder" (some 13) with
  accessFlags := 49
  interfaces := #[12, 2, 3, 4]
  cf := some (fileOf pool14 24 #[] #[mi 1 5 145, mi 1 27 28, mi 1 399 400, mi 4161 345 156] 49 2 #[349, 351, 353, 355] #[fi 24 357 358])
  fields := #[fd "serialVersionUID" .long 24 0]
  methods := #[k14m0, k14m1, k14m2, k14m3]
  instanceTypes := #[(.array .byte), .byte, .boolean, .int]
  staticTypes := #[.long]
  resolved := Array.replicate 422 none
  statics := none }

def pool15 : Array CpInfo := pool [(2, .class_ 4), (1, u "java/lang/Object"), (0, u "<init>"), (0, u "()V"), (1, .class_ 10), (1, u "java/lang/System"), (0, u "allowSecurityManager"), (0, u "I"), (16, u "cons"), (0, u "Ljava/io/Console;"), (77, .class_ 110), (1, u "java/lang/System$CallersHolder"), (43, u "initialErrStream"), (0, u "Ljava/io/PrintStream;"), (19, u "security"), (0, u "Ljava/lang/SecurityManager;"), (31, .class_ 209), (0, u "java/lang/System$1"), (7, u "props"), (0, u "Ljava/util/Properties;"), (2, u "lineSeparator"), (0, u "Ljava/lang/String;"), (96, .class_ 321), (1, u "java/lang/System$LoggerFinder"), (5, .class_ 328), (0, u "java/lang/System$Logger"), (67, u "err"), (2, u "out"), (91, u "notSupportedJnuEncoding"), (15, u "in"), (17, u "initialIn"), (0, u "Ljava/io/InputStream;"), (35, u "bootLayer"), (0, u "Ljava/lang/ModuleLayer;"), (99, .class_ 664), (0, u "java/lang/System$2"), (9, u "NEVER"), (2, u "MAYBE"), (49, u "arraycopy"), (0, u "(Ljava/lang/Object;ILjava/lang/Object;II)V"), (72, .class_ 802), (0, u "java/lang/System$Logger$Level")] 31

def k15m0 : Method := { name := "<init>", desc := "()V", sig := { parameters := [], returnType := none }, accessFlags := 2, code := none }
def k15m1 : Method := { name := "arraycopy", desc := "(Ljava/lang/Object;ILjava/lang/Object;II)V", sig := { parameters := [(.object "java/lang/Object"), .int, (.object "java/lang/Object"), .int, .int], returnType := none }, accessFlags := 265, code := none }
/-- java/lang/System -/
def k15 : Class := { plain "java/lang/System" (some 0) with
  accessFlags := 49
  interfaces := #[]
  cf := some (fileOf pool15 8 #[.nestMembers #[319, 327, 801, 108, 663, 208]] #[mi 2 5 6, mi 265 727 728] 49 2 #[] #[fi 25 507 526, fi 25 399 155, fi 25 396 155, fi 10 525 526, fi 26 674 12, fi 26 677 12, fi 10 11 12, fi 74 175 176, fi 10 491 222, fi 74 29 30, fi 74 154 155, fi 10 217 218, fi 10 221 222, fi 8 562 563])
  fields := #[fd "in" (.object "java/io/InputStream") 25 0, fd "out" (.object "java/io/PrintStream") 25 1, fd "err" (.object "java/io/PrintStream") 25 2, fd "initialIn" (.object "java/io/InputStream") 10 3, fd "NEVER" .int 26 4, fd "MAYBE" .int 26 5, fd "allowSecurityManager" .int 10 6, fd "security" (.object "java/lang/SecurityManager") 74 7, fd "notSupportedJnuEncoding" (.object "java/lang/String") 10 8, fd "cons" (.object "java/io/Console") 74 9, fd "initialErrStream" (.object "java/io/PrintStream") 74 10, fd "props" (.object "java/util/Properties") 10 11, fd "lineSeparator" (.object "java/lang/String") 10 12, fd "bootLayer" (.object "java/lang/ModuleLayer") 8 13]
  methods := #[k15m0, k15m1]
  instanceTypes := #[]
  staticTypes := #[(.object "java/io/InputStream"), (.object "java/io/PrintStream"), (.object "java/io/PrintStream"), (.object "java/io/InputStream"), .int, .int, .int, (.object "java/lang/SecurityManager"), (.object "java/lang/String"), (.object "java/io/Console"), (.object "java/io/PrintStream"), (.object "java/util/Properties"), (.object "java/lang/String"), (.object "java/lang/ModuleLayer")]
  resolved := Array.replicate 834 none
  statics := none }

def pool16 : Array CpInfo := pool [(2, .class_ 4), (1, u "java/lang/Object"), (0, u "<init>"), (0, u "()V"), (7, .class_ 16), (1, u "java/util/Arrays"), (57, .class_ 76), (1, u "java/util/Arrays$NaturalOrder"), (32, u "()Ljava/lang/Object;"), (3, .class_ 115), (1, u "java/util/Arrays$LegacyMergeSort"), (1, u "Z"), (10, .nameAndType 129 109), (0, u "clone"), (9, u "copyOfRange"), (10, .methodref 151 152), (0, .class_ 153), (0, .nameAndType 154 155), (0, u "java/lang/System"), (0, u "arraycopy"), (0, u "(Ljava/lang/Object;ILjava/lang/Object;II)V"), (148, .methodref 305 306), (0, .class_ 307), (0, .nameAndType 308 309), (0, u "java/lang/Math"), (0, u "min"), (0, u "(II)I"), (0, .methodref 311 128), (0, .class_ 312), (0, u "[B"), (26, .methodref 14 340), (0, .nameAndType 341 342), (0, u "copyOfRangeByte"), (0, u "([BII)[B"), (0, .methodref 14 344), (0, .nameAndType 345 346), (0, u "checkLength"), (0, u "(II)V"), (28, .class_ 376), (0, u "java/util/Arrays$ArrayList"), (68, u "$assertionsDisabled"), (269, u "MIN_ARRAY_SORT_GRAN"), (0, u "I"), (2, u "INSERTIONSORT_THRESHOLD"), (255, .class_ 976), (0, u "java/util/Arrays$ArrayItr")] 52

def k16m0 : Method := { name := "<init>", desc := "()V", sig := { parameters := [], returnType := none }, accessFlags := 2, code := none }
def k16c1 : Code := { maxStack := 4, maxLocals := 2, code := jdk_65_method_131_code, exceptionTable := #[], attributes := #[] }
def k16m1 : Method := { name := "checkLength", desc := "(II)V", sig := { parameters := [.int, .int], returnType := none }, accessFlags := 10, code := some k16c1 }
def k16c2 : Code := { maxStack := 3, maxLocals := 3, code := jdk_65_method_132_code, exceptionTable := #[], attributes := #[] }
def k16m2 : Method := { name := "copyOfRange", desc := "([BII)[B", sig := { parameters := [(.array .byte), .int, .int], returnType := some (.array .byte) }, accessFlags := 9, code := some k16c2 }
def k16c3 : Code := { maxStack := 6, maxLocals := 5, code := jdk_65_method_133_code, exceptionTable := #[], attributes := #[] }
def k16m3 : Method := { name := "copyOfRangeByte", desc := "([BII)[B", sig := { parameters := [(.array .byte), .int, .int], returnType := some (.array .byte) }, accessFlags := 10, code := some k16c3 }
/-- java/util/Arrays -/
def k16 : Class := { plain "java/util/Arrays" (some 0) with
  accessFlags := 49
  interfaces := #[]
  cf := some (fileOf pool16 14 #[.nestMembers #[975, 375, 113, 74]] #[mi 2 5 6, mi 10 345 346, mi 9 139 342, mi 10 341 342] 49 2 #[] #[fi 26 715 716, fi 26 719 716, fi 4120 445 117])
  fields := #[fd "MIN_ARRAY_SORT_GRAN" .int 26 0, fd "INSERTIONSORT_THRESHOLD" .int 26 1, fd "$assertionsDisabled" .boolean 4120 2]
  methods := #[k16m0, k16m1, k16m2, k16m3]
  instanceTypes := #[]
  staticTypes := #[.int, .int, .boolean]
  resolved := Array.replicate 1029 none
  statics := none }

def pool17 : Array CpInfo := pool [(1, .class_ 2), (0, u "java/lang/Math"), (1, .class_ 6), (1, u "java/lang/Object"), (0, u "<init>"), (0, u "()V"), (89, .class_ 100), (1, u "java/lang/Math$RandomNumberGeneratorHolder"), (71, u "negativeZeroFloatBits"), (0, u "J"), (2, u "negativeZeroDoubleBits"), (24, u "min"), (43, u "$assertionsDisabled"), (0, u "Z"), (88, u "(II)I"), (2, u "twoToTheDoubleScaleDown"), (0, u "D"), (4, u "twoToTheDoubleScaleUp"), (9, u "E"), (3, u "PI"), (2, u "TAU"), (2, u "DEGREES_TO_RADIANS"), (0, u "RADIANS_TO_DEGREES")] 94

def k17m0 : Method := { name := "<init>", desc := "()V", sig := { parameters := [], returnType := none }, accessFlags := 2, code := none }
def k17c1 : Code := { maxStack := 2, maxLocals := 2, code := jdk_29_method_69_code, exceptionTable := #[], attributes := #[] }
def k17m1 : Method := { name := "min", desc := "(II)I", sig := { parameters := [.int, .int], returnType := some .int }, accessFlags := 9, code := some k17c1 }
/-- java/lang/Math -/
def k17 : Class := { plain "java/lang/Math" (some 0) with
  accessFlags := 49
  interfaces := #[]
  cf := some (fileOf pool17 1 #[.nestMembers #[98]] #[mi 2 7 8, mi 9 201 335] 49 4 #[] #[fi 25 354 339, fi 25 358 339, fi 25 361 339, fi 26 364 339, fi 26 365 339, fi 26 172 173, fi 26 176 173, fi 8 344 339, fi 8 338 339, fi 4120 245 246])
  fields := #[fd "E" .double 25 0, fd "PI" .double 25 1, fd "TAU" .double 25 2, fd "DEGREES_TO_RADIANS" .double 26 3, fd "RADIANS_TO_DEGREES" .double 26 4, fd "negativeZeroFloatBits" .long 26 5, fd "negativeZeroDoubleBits" .long 26 6, fd "twoToTheDoubleScaleUp" .double 8 7, fd "twoToTheDoubleScaleDown" .double 8 8, fd "$assertionsDisabled" .boolean 4120 9]
  methods := #[k17m0, k17m1]
  instanceTypes := #[]
  staticTypes := #[.double, .double, .double, .double, .double, .long, .long, .double, .double, .boolean]
  resolved := Array.replicate 460 none
  statics := none }

def pool18 : Array CpInfo := pool [(1, .class_ 2), (0, u "java/lang/String"), (1, .class_ 6), (1, u "java/lang/Object"), (0, u "<init>"), (0, u "()V"), (0, .methodref 1 10), (0, .nameAndType 11 12), (0, u "checkIndex"), (0, u "(II)V"), (1, .class_ 16), (1, u "java/lang/StringLatin1"), (0, u "inflate"), (2, .class_ 22), (1, u "java/lang/StringUTF16"), (3, .nameAndType 17 27), (0, u "([BI[BII)V"), (25, u "([BI)C"), (36, u "canEncode"), (14, u "(C)Z"), (15, u "$assertionsDisabled"), (0, u "Z"), (98, .class_ 223), (1, u "java/lang/StringLatin1$LinesSpliterator"), (16, .methodref 20 26), (11, u "charAt"), (127, u "toBytes"), (1, u "(C)[B"), (7, .class_ 391), (0, u "java/lang/StringLatin1$CharsSpliterator")] 3

def k18m0 : Method := { name := "<init>", desc := "()V", sig := { parameters := [], returnType := none }, accessFlags := 0, code := none }
def k18c1 : Code := { maxStack := 2, maxLocals := 2, code := jdk_43_method_2_code, exceptionTable := #[], attributes := #[] }
def k18m1 : Method := { name := "charAt", desc := "([BI)C", sig := { parameters := [(.array .byte), .int], returnType := some .char }, accessFlags := 9, code := some k18c1 }
def k18c2 : Code := { maxStack := 2, maxLocals := 1, code := jdk_43_method_3_code, exceptionTable := #[], attributes := #[] }
def k18m2 : Method := { name := "canEncode", desc := "(C)Z", sig := { parameters := [.char], returnType := some .boolean }, accessFlags := 9, code := some k18c2 }
def k18c3 : Code := { maxStack := 4, maxLocals := 1, code := jdk_43_method_46_code, exceptionTable := #[], attributes := #[] }
def k18m3 : Method := { name := "toBytes", desc := "(C)[B", sig := { parameters := [.char], returnType := some (.array .byte) }, accessFlags := 9, code := some k18c3 }
def k18c4 : Code := { maxStack := 5, maxLocals := 5, code := jdk_43_method_50_code, exceptionTable := #[], attributes := #[] }
def k18m4 : Method := { name := "inflate", desc := "([BI[BII)V", sig := { parameters := [(.array .byte), .int, (.array .byte), .int, .int], returnType := none }, accessFlags := 9, code := some k18c4 }
/-- java/lang/StringLatin1 -/
def k18 : Class := { plain "java/lang/StringLatin1" (some 0) with
  accessFlags := 48
  interfaces := #[]
  cf := some (fileOf pool18 14 #[.nestMembers #[390, 221]] #[mi 0 7 8, mi 9 252 53, mi 9 90 105, mi 9 380 382, mi 9 17 27] 48 4 #[] #[fi 4120 121 122])
  fields := #[fd "$assertionsDisabled" .boolean 4120 0]
  methods := #[k18m0, k18m1, k18m2, k18m3, k18m4]
  instanceTypes := #[]
  staticTypes := #[.boolean]
  resolved := Array.replicate 395 none
  statics := none }

def pool19 : Array CpInfo := pool [(2, .class_ 4), (1, u "java/lang/Object"), (0, u "<init>"), (0, u "()V"), (17, .class_ 26), (1, u "jdk/internal/util/Preconditions"), (6, u "checkIndex"), (15, u "checkFromIndexSize"), (5, .class_ 56), (0, u "jdk/internal/util/Preconditions$4"), (57, .class_ 115), (0, u "jdk/internal/util/Preconditions$1"), (7, u "SIOOBE_FORMATTER"), (0, u "Ljava/util/function/BiFunction;"), (0, .class_ 126), (0, u "jdk/internal/util/Preconditions$2"), (3, u "AIOOBE_FORMATTER"), (0, .class_ 132), (0, u "jdk/internal/util/Preconditions$3"), (3, u "IOOBE_FORMATTER"), (41, u "(IILjava/util/function/BiFunction;)I"), (4, u "(IIILjava/util/function/BiFunction;)I")] 10

def k19m0 : Method := { name := "<init>", desc := "()V", sig := { parameters := [], returnType := none }, accessFlags := 1, code := none }
def k19c1 : Code := { maxStack := 3, maxLocals := 3, code := jdk_41_method_11_code, exceptionTable := #[], attributes := #[] }
def k19m1 : Method := { name := "checkIndex", desc := "(IILjava/util/function/BiFunction;)I", sig := { parameters := [.int, .int, (.object "java/util/function/BiFunction")], returnType := some .int }, accessFlags := 9, code := some k19c1 }
def k19c2 : Code := { maxStack := 4, maxLocals := 4, code := jdk_41_method_13_code, exceptionTable := #[], attributes := #[] }
def k19m2 : Method := { name := "checkFromIndexSize", desc := "(IIILjava/util/function/BiFunction;)I", sig := { parameters := [.int, .int, .int, (.object "java/util/function/BiFunction")], returnType := some .int }, accessFlags := 9, code := some k19c2 }
/-- jdk/internal/util/Preconditions -/
def k19 : Class := { plain "jdk/internal/util/Preconditions" (some 0) with
  accessFlags := 33
  interfaces := #[]
  cf := some (fileOf pool19 24 #[.nestMembers #[55, 131, 125, 114]] #[mi 1 5 6, mi 9 33 178, mi 9 49 183] 33 2 #[] #[fi 25 123 124, fi 25 130 124, fi 25 136 124])
  fields := #[fd "SIOOBE_FORMATTER" (.object "java/util/function/BiFunction") 25 0, fd "AIOOBE_FORMATTER" (.object "java/util/function/BiFunction") 25 1, fd "IOOBE_FORMATTER" (.object "java/util/function/BiFunction") 25 2]
  methods := #[k19m0, k19m1, k19m2]
  instanceTypes := #[]
  staticTypes := #[(.object "java/util/function/BiFunction"), (.object "java/util/function/BiFunction"), (.object "java/util/function/BiFunction")]
  resolved := Array.replicate 194 none
  statics := some 2 }

def pool20 : Array CpInfo := pool [(3, .class_ 4), (0, u "java/lang/String"), (1, .class_ 8), (1, u "java/lang/Object"), (0, u "<init>"), (0, u "()V"), (0, .methodref 12 13), (0, .class_ 14), (0, .nameAndType 15 16), (0, u "java/lang/StringUTF16"), (0, u "newBytesLength"), (0, u "(I)I"), (3, .integer 1073741823), (23, .fieldref 12 45), (0, .nameAndType 46 47), (0, u "$assertionsDisabled"), (0, u "Z"), (0, .methodref 12 49), (0, .nameAndType 50 51), (0, u "length"), (0, u "([B)I"), (7, .fieldref 12 60), (0, .nameAndType 61 62), (0, u "HI_BYTE_SHIFT"), (0, u "I"), (0, .fieldref 12 64), (0, .nameAndType 65 62), (0, u "LO_BYTE_SHIFT"), (1, .methodref 12 68), (0, .nameAndType 69 70), (0, u "checkIndex"), (0, u "(I[B)V"), (0, .methodref 12 72), (0, .nameAndType 73 74), (0, u "getChar"), (0, u "([BI)C"), (24, u "(II[B)V"), (7, .methodref 12 108), (0, .nameAndType 109 110), (0, u "newBytesFor"), (0, u "(I)[B"), (0, .methodref 12 112), (0, .nameAndType 113 114), (0, u "putChar"), (0, u "([BII)V"), (0, .methodref 12 116), (0, .nameAndType 117 118), (0, u "compress"), (0, u "([CI[BII)I"), (0, .methodref 12 120), (0, .nameAndType 121 122), (0, u "toBytes"), (0, u "([CII)[B"), (17, u "inflate"), (0, u "([BI[BII)V"), (31, .methodref 12 174), (0, .nameAndType 175 99), (0, u "checkBoundsOffCount"), (85, u "coderFromArrayLen"), (0, u "([BI)B"), (18, u "(III)I"), (87, .class_ 371), (1, u "java/lang/StringUTF16$LinesSpliterator"), (20, u "charAt"), (21, .methodref 3 415), (0, .nameAndType 69 416), (0, u "(II)V"), (2, .methodref 3 420), (0, .nameAndType 175 281), (9, u "MAX_LENGTH"), (44, u "(C)[B"), (151, .class_ 628), (0, u "java/lang/StringUTF16$CodePointsSpliterator"), (0, .class_ 630), (0, u "java/lang/StringUTF16$CharsSpliterator")] 4

def k20m0 : Method := { name := "<init>", desc := "()V", sig := { parameters := [], returnType := none }, accessFlags := 0, code := none }
def k20c1 : Code := { maxStack := 1, maxLocals := 1, code := jdk_52_method_2_code, exceptionTable := #[], attributes := #[] }
def k20m1 : Method := { name := "newBytesFor", desc := "(I)[B", sig := { parameters := [.int], returnType := some (.array .byte) }, accessFlags := 9, code := some k20c1 }
def k20c2 : Code := { maxStack := 4, maxLocals := 1, code := jdk_52_method_3_code, exceptionTable := #[], attributes := #[] }
def k20m2 : Method := { name := "newBytesLength", desc := "(I)I", sig := { parameters := [.int], returnType := some .int }, accessFlags := 9, code := some k20c2 }
def k20c3 : Code := { maxStack := 4, maxLocals := 3, code := jdk_52_method_4_code, exceptionTable := #[], attributes := #[] }
def k20m3 : Method := { name := "putChar", desc := "([BII)V", sig := { parameters := [(.array .byte), .int, .int], returnType := none }, accessFlags := 8, code := some k20c3 }
def k20c4 : Code := { maxStack := 3, maxLocals := 2, code := jdk_52_method_5_code, exceptionTable := #[], attributes := #[] }
def k20m4 : Method := { name := "getChar", desc := "([BI)C", sig := { parameters := [(.array .byte), .int], returnType := some .char }, accessFlags := 8, code := some k20c4 }
def k20c5 : Code := { maxStack := 2, maxLocals := 1, code := jdk_52_method_6_code, exceptionTable := #[], attributes := #[] }
def k20m5 : Method := { name := "length", desc := "([B)I", sig := { parameters := [(.array .byte)], returnType := some .int }, accessFlags := 9, code := some k20c5 }
def k20c6 : Code := { maxStack := 4, maxLocals := 5, code := jdk_52_method_14_code, exceptionTable := #[], attributes := #[] }
def k20m6 : Method := { name := "toBytes", desc := "([CII)[B", sig := { parameters := [(.array .char), .int, .int], returnType := some (.array .byte) }, accessFlags := 9, code := some k20c6 }
def k20c7 : Code := { maxStack := 2, maxLocals := 2, code := jdk_52_method_15_code, exceptionTable := #[], attributes := #[] }
def k20m7 : Method := { name := "coderFromArrayLen", desc := "([BI)B", sig := { parameters := [(.array .byte), .int], returnType := some .byte }, accessFlags := 8, code := some k20c7 }
def k20c8 : Code := { maxStack := 5, maxLocals := 6, code := jdk_52_method_16_code, exceptionTable := #[], attributes := #[] }
def k20m8 : Method := { name := "compress", desc := "([CII)[B", sig := { parameters := [(.array .char), .int, .int], returnType := some (.array .byte) }, accessFlags := 9, code := some k20c8 }
def k20c9 : Code := { maxStack := 3, maxLocals := 7, code := jdk_52_method_21_code, exceptionTable := #[], attributes := #[] }
def k20m9 : Method := { name := "compress", desc := "([CI[BII)I", sig := { parameters := [(.array .char), .int, (.array .byte), .int, .int], returnType := some .int }, accessFlags := 9, code := some k20c9 }
def k20c10 : Code := { maxStack := 3, maxLocals := 2, code := jdk_52_method_24_code, exceptionTable := #[], attributes := #[] }
def k20m10 : Method := { name := "toBytes", desc := "(C)[B", sig := { parameters := [.char], returnType := some (.array .byte) }, accessFlags := 9, code := some k20c10 }
def k20c11 : Code := { maxStack := 2, maxLocals := 2, code := jdk_52_method_83_code, exceptionTable := #[], attributes := #[] }
def k20m11 : Method := { name := "charAt", desc := "([BI)C", sig := { parameters := [(.array .byte), .int], returnType := some .char }, accessFlags := 9, code := some k20c11 }
def k20c12 : Code := { maxStack := 4, maxLocals := 6, code := jdk_52_method_86_code, exceptionTable := #[], attributes := #[] }
def k20m12 : Method := { name := "inflate", desc := "([BI[BII)V", sig := { parameters := [(.array .byte), .int, (.array .byte), .int, .int], returnType := none }, accessFlags := 9, code := some k20c12 }
def k20c13 : Code := { maxStack := 2, maxLocals := 2, code := jdk_52_method_91_code, exceptionTable := #[], attributes := #[] }
def k20m13 : Method := { name := "checkIndex", desc := "(I[B)V", sig := { parameters := [.int, (.array .byte)], returnType := none }, accessFlags := 9, code := some k20c13 }
def k20c14 : Code := { maxStack := 3, maxLocals := 3, code := jdk_52_method_94_code, exceptionTable := #[], attributes := #[] }
def k20m14 : Method := { name := "checkBoundsOffCount", desc := "(II[B)V", sig := { parameters := [.int, .int, (.array .byte)], returnType := none }, accessFlags := 9, code := some k20c14 }
/-- java/lang/StringUTF16 -/
def k20 : Class := { plain "java/lang/StringUTF16" (some 0) with
  accessFlags := 48
  interfaces := #[]
  cf := some (fileOf pool20 12 #[.nestMembers #[627, 629, 369]] #[mi 0 9 10, mi 9 109 110, mi 9 15 16, mi 8 113 114, mi 8 73 74, mi 9 50 51, mi 9 121 122, mi 8 261 262, mi 9 117 122, mi 9 117 118, mi 9 121 475, mi 9 392 74, mi 9 140 141, mi 9 69 70, mi 9 175 99] 48 6 #[] #[fi 26 61 62, fi 26 65 62, fi 24 430 62, fi 4120 46 47])
  fields := #[fd "HI_BYTE_SHIFT" .int 26 0, fd "LO_BYTE_SHIFT" .int 26 1, fd "MAX_LENGTH" .int 24 2, fd "$assertionsDisabled" .boolean 4120 3]
  methods := #[k20m0, k20m1, k20m2, k20m3, k20m4, k20m5, k20m6, k20m7, k20m8, k20m9, k20m10, k20m11, k20m12, k20m13, k20m14]
  instanceTypes := #[]
  staticTypes := #[.int, .int, .int, .boolean]
  resolved := Array.replicate 635 none
  statics := some 3 }

def pool21 : Array CpInfo := pool [(1, .class_ 2), (0, u "java/lang/Cloneable"), (0, .class_ 4), (0, u "java/lang/Object")] 2

/-- java/lang/Cloneable -/
def k21 : Class := { plain "java/lang/Cloneable" (some 0) with
  accessFlags := 1537
  interfaces := #[]
  cf := some (fileOf pool21 1 #[] #[] 1537 3 #[] #[])
  fields := #[]
  methods := #[]
  instanceTypes := #[]
  staticTypes := #[]
  resolved := Array.replicate 7 none
  statics := none }

def pool22 : Array CpInfo := pool [(9, u "<init>"), (6, .class_ 18), (1, u "java/lang/Object"), (0, u "()V"), (1, .class_ 23), (1, u "jdk/internal/util/ArraysSupport"), (0, u "LOG2_ARRAY_LONG_INDEX_SCALE"), (0, u "I"), (2, u "U"), (0, u "Ljdk/internal/misc/Unsafe;"), (8, u "BIG_ENDIAN"), (0, u "Z"), (8, u "LOG2_BYTE_BIT_SIZE"), (4, u "LOG2_ARRAY_INT_INDEX_SCALE"), (54, u "JLA"), (0, u "Ljdk/internal/access/JavaLangAccess;"), (11, u "LOG2_ARRAY_BOOLEAN_INDEX_SCALE"), (9, u "LOG2_ARRAY_BYTE_INDEX_SCALE"), (5, u "LOG2_ARRAY_CHAR_INDEX_SCALE"), (5, u "LOG2_ARRAY_SHORT_INDEX_SCALE"), (18, u "LOG2_ARRAY_FLOAT_INDEX_SCALE"), (24, u "LOG2_ARRAY_DOUBLE_INDEX_SCALE"), (89, u "T_BOOLEAN"), (2, u "T_CHAR"), (1, u "T_FLOAT"), (1, u "T_DOUBLE"), (1, u "T_BYTE"), (1, u "T_SHORT"), (1, u "T_INT"), (1, u "T_LONG"), (1, u "SOFT_MAX_ARRAY_LENGTH")] 83

def k22m0 : Method := { name := "<init>", desc := "()V", sig := { parameters := [], returnType := none }, accessFlags := 2, code := none }
/-- jdk/internal/util/ArraysSupport -/
def k22 : Class := { plain "jdk/internal/util/ArraysSupport" (some 0) with
  accessFlags := 33
  interfaces := #[]
  cf := some (fileOf pool22 21 #[] #[mi 2 9 19] 33 16 #[] #[fi 24 28 29, fi 26 38 39, fi 25 121 25, fi 25 131 25, fi 25 137 25, fi 25 143 25, fi 25 53 25, fi 25 24 25, fi 25 162 25, fi 25 187 25, fi 26 48 25, fi 25 277 25, fi 25 280 25, fi 25 282 25, fi 25 284 25, fi 25 286 25, fi 25 288 25, fi 25 290 25, fi 25 292 25, fi 26 108 109, fi 25 294 25])
  fields := #[fd "U" (.object "jdk/internal/misc/Unsafe") 24 0, fd "BIG_ENDIAN" .boolean 26 1, fd "LOG2_ARRAY_BOOLEAN_INDEX_SCALE" .int 25 2, fd "LOG2_ARRAY_BYTE_INDEX_SCALE" .int 25 3, fd "LOG2_ARRAY_CHAR_INDEX_SCALE" .int 25 4, fd "LOG2_ARRAY_SHORT_INDEX_SCALE" .int 25 5, fd "LOG2_ARRAY_INT_INDEX_SCALE" .int 25 6, fd "LOG2_ARRAY_LONG_INDEX_SCALE" .int 25 7, fd "LOG2_ARRAY_FLOAT_INDEX_SCALE" .int 25 8, fd "LOG2_ARRAY_DOUBLE_INDEX_SCALE" .int 25 9, fd "LOG2_BYTE_BIT_SIZE" .int 26 10, fd "T_BOOLEAN" .int 25 11, fd "T_CHAR" .int 25 12, fd "T_FLOAT" .int 25 13, fd "T_DOUBLE" .int 25 14, fd "T_BYTE" .int 25 15, fd "T_SHORT" .int 25 16, fd "T_INT" .int 25 17, fd "T_LONG" .int 25 18, fd "JLA" (.object "jdk/internal/access/JavaLangAccess") 26 19, fd "SOFT_MAX_ARRAY_LENGTH" .int 25 20]
  methods := #[k22m0]
  instanceTypes := #[]
  staticTypes := #[(.object "jdk/internal/misc/Unsafe"), .boolean, .int, .int, .int, .int, .int, .int, .int, .int, .int, .int, .int, .int, .int, .int, .int, .int, .int, (.object "jdk/internal/access/JavaLangAccess"), .int]
  resolved := Array.replicate 378 none
  statics := none }

def pool23 : Array CpInfo := pool [(2, .class_ 4), (1, u "java/lang/Object"), (0, u "<init>"), (0, u "()V"), (12, .class_ 20), (0, u "java/util/Collections"), (63, u "r"), (0, u "Ljava/util/Random;"), (80, .class_ 167), (0, u "java/util/Collections$UnmodifiableCollection"), (6, .class_ 175), (0, u "java/util/Collections$UnmodifiableSequencedCollection"), (6, .class_ 183), (0, u "java/util/Collections$UnmodifiableSet"), (6, .class_ 191), (0, u "java/util/Collections$UnmodifiableSequencedSet"), (6, .class_ 199), (0, u "java/util/Collections$UnmodifiableSortedSet"), (6, .class_ 207), (0, u "java/util/Collections$UnmodifiableNavigableSet"), (4, .class_ 213), (0, u "java/util/Collections$UnmodifiableList"), (1, .class_ 216), (0, u "java/util/Collections$UnmodifiableRandomAccessList"), (6, .class_ 224), (0, u "java/util/Collections$UnmodifiableMap"), (6, .class_ 232), (0, u "java/util/Collections$UnmodifiableSequencedMap"), (4, .class_ 238), (0, u "java/util/Collections$UnmodifiableSortedMap"), (6, .class_ 246), (0, u "java/util/Collections$UnmodifiableNavigableMap"), (3, .class_ 251), (0, u "java/util/Collections$SynchronizedCollection"), (4, .class_ 257), (0, u "java/util/Collections$SynchronizedSet"), (4, .class_ 263), (0, u "java/util/Collections$SynchronizedSortedSet"), (1, .class_ 266), (0, u "java/util/Collections$SynchronizedNavigableSet"), (1, .class_ 269), (0, u "java/util/Collections$SynchronizedRandomAccessList"), (1, .class_ 272), (0, u "java/util/Collections$SynchronizedList"), (5, .class_ 279), (0, u "java/util/Collections$SynchronizedMap"), (1, .class_ 282), (0, u "java/util/Collections$SynchronizedSortedMap"), (1, .class_ 285), (0, u "java/util/Collections$SynchronizedNavigableMap"), (1, .class_ 288), (0, u "java/util/Collections$CheckedCollection"), (11, .class_ 301), (0, u "java/util/Collections$CheckedQueue"), (3, .class_ 306), (0, u "java/util/Collections$CheckedSet"), (3, .class_ 311), (0, u "java/util/Collections$CheckedSortedSet"), (3, .class_ 316), (0, u "java/util/Collections$CheckedNavigableSet"), (3, .class_ 321), (0, u "java/util/Collections$CheckedRandomAccessList"), (3, .class_ 326), (0, u "java/util/Collections$CheckedList"), (1, .class_ 329), (0, u "java/util/Collections$CheckedMap"), (3, .class_ 334), (0, u "java/util/Collections$CheckedSortedMap"), (3, .class_ 339), (0, u "java/util/Collections$CheckedNavigableMap"), (4, .class_ 346), (1, u "java/util/Collections$EmptyIterator"), (3, .class_ 352), (1, u "java/util/Collections$EmptyListIterator"), (2, .class_ 357), (1, u "java/util/Collections$EmptyEnumeration"), (4, u "EMPTY_SET"), (0, u "Ljava/util/Set;"), (6, u "EMPTY_LIST"), (0, u "Ljava/util/List;"), (2, u "EMPTY_MAP"), (0, u "Ljava/util/Map;"), (4, .class_ 381), (0, u "java/util/Collections$SingletonSet"), (2, .class_ 385), (0, u "java/util/Collections$1"), (1, .class_ 388), (0, u "java/util/Collections$2"), (1, .class_ 391), (0, u "java/util/Collections$SingletonList"), (1, .class_ 394), (0, u "java/util/Collections$SingletonMap"), (22, .class_ 418), (0, u "java/util/Collections$CopiesList"), (4, .class_ 425), (1, u "java/util/Collections$ReverseComparator"), (8, .class_ 435), (0, u "java/util/Collections$ReverseComparator2"), (6, .class_ 443), (0, u "java/util/Collections$3"), (25, .class_ 470), (0, u "java/util/Collections$SetFromMap"), (2, .class_ 474), (0, u "java/util/Collections$SequencedSetFromMap"), (3, .class_ 479), (0, u "java/util/Collections$AsLIFOQueue"), (11, .class_ 492), (0, u "java/util/Collections$EmptySet"), (1, .class_ 495), (0, u "java/util/Collections$EmptyList"), (1, .class_ 498), (0, u "java/util/Collections$EmptyMap"), (1, u "BINARYSEARCH_THRESHOLD"), (0, u "I"), (2, u "REVERSE_THRESHOLD"), (1, u "SHUFFLE_THRESHOLD"), (1, u "FILL_THRESHOLD"), (1, u "ROTATE_THRESHOLD"), (1, u "COPY_THRESHOLD"), (1, u "REPLACEALL_THRESHOLD"), (1, u "INDEXOFSUBLIST_THRESHOLD"), (333, .class_ 851), (0, u "java/util/Collections$CheckedMap$CheckedEntrySet"), (0, .class_ 853), (0, u "java/util/Collections$CheckedMap$CheckedEntrySet$CheckedEntry"), (0, .class_ 855), (0, u "java/util/Collections$CheckedMap$CheckedEntrySet$1"), (0, .class_ 857), (0, u "java/util/Collections$CheckedList$1"), (0, .class_ 859), (0, u "java/util/Collections$CheckedCollection$1"), (0, .class_ 861), (0, u "java/util/Collections$UnmodifiableNavigableMap$EmptyNavigableMap"), (0, .class_ 863), (0, u "java/util/Collections$UnmodifiableMap$UnmodifiableEntrySet"), (0, .class_ 865), (0, u "java/util/Collections$UnmodifiableMap$UnmodifiableEntrySet$UnmodifiableEntry"), (0, .class_ 867), (0, u "java/util/Collections$UnmodifiableMap$UnmodifiableEntrySet$UnmodifiableEntrySetSpliterator"), (0, .class_ 869), (0, u "java/util/Collections$UnmodifiableMap$UnmodifiableEntrySet$1"), (0, .class_ 871), (0, u "java/util/Collections$UnmodifiableList$1"), (0, .class_ 873), (0, u "java/util/Collections$UnmodifiableNavigableSet$EmptyNavigableSet"), (0, .class_ 875), (0, u "java/util/Collections$UnmodifiableCollection$1")] 57

def k23m0 : Method := { name := "<init>", desc := "()V", sig := { parameters := [], returnType := none }, accessFlags := 2, code := none }
/-- java/util/Collections -/
def k23 : Class := { plain "java/util/Collections" (some 0) with
  accessFlags := 33
  interfaces := #[]
  cf := some (fileOf pool23 19 #[.nestMembers #[478, 473, 469, 434, 423, 417, 393, 390, 380, 497, 494, 491, 355, 350, 344, 338, 333, 328, 850, 852, 854, 320, 325, 856, 315, 310, 305, 300, 287, 858, 284, 281, 278, 268, 271, 265, 262, 256, 250, 245, 860, 237, 231, 223, 862, 864, 866, 868, 215, 212, 870, 206, 872, 198, 190, 182, 174, 166, 874, 442, 387, 384]] #[mi 2 5 6] 33 2 #[] #[fi 26 500 501, fi 26 504 501, fi 26 506 501, fi 26 508 501, fi 26 510 501, fi 26 512 501, fi 26 514 501, fi 26 516 501, fi 10 84 85, fi 25 362 363, fi 25 370 371, fi 25 374 375])
  fields := #[fd "BINARYSEARCH_THRESHOLD" .int 26 0, fd "REVERSE_THRESHOLD" .int 26 1, fd "SHUFFLE_THRESHOLD" .int 26 2, fd "FILL_THRESHOLD" .int 26 3, fd "ROTATE_THRESHOLD" .int 26 4, fd "COPY_THRESHOLD" .int 26 5, fd "REPLACEALL_THRESHOLD" .int 26 6, fd "INDEXOFSUBLIST_THRESHOLD" .int 26 7, fd "r" (.object "java/util/Random") 10 8, fd "EMPTY_SET" (.object "java/util/Set") 25 9, fd "EMPTY_LIST" (.object "java/util/List") 25 10, fd "EMPTY_MAP" (.object "java/util/Map") 25 11]
  methods := #[k23m0]
  instanceTypes := #[]
  staticTypes := #[.int, .int, .int, .int, .int, .int, .int, .int, (.object "java/util/Random"), (.object "java/util/Set"), (.object "java/util/List"), (.object "java/util/Map")]
  resolved := Array.replicate 933 none
  statics := some 4 }

def pool24 : Array CpInfo := pool [(8, .class_ 10), (1, u "java/lang/Iterable"), (24, .class_ 36), (0, u "java/lang/Object")] 25

/-- java/lang/Iterable -/
def k24 : Class := { plain "java/lang/Iterable" (some 0) with
  accessFlags := 1537
  interfaces := #[]
  cf := some (fileOf pool24 8 #[] #[] 1537 35 #[] #[])
  fields := #[]
  methods := #[]
  instanceTypes := #[]
  staticTypes := #[]
  resolved := Array.replicate 62 none
  statics := none }

def pool25 : Array CpInfo := pool [(10, .class_ 12), (1, u "java/util/Collection"), (47, .class_ 61), (0, u "java/lang/Object"), (0, .class_ 63), (0, u "java/lang/Iterable")] 51

/-- java/util/Collection -/
def k25 : Class := { plain "java/util/Collection" (some 0) with
  accessFlags := 1537
  interfaces := #[24]
  cf := some (fileOf pool25 10 #[] #[] 1537 60 #[62] #[])
  fields := #[]
  methods := #[]
  instanceTypes := #[]
  staticTypes := #[]
  resolved := Array.replicate 115 none
  statics := none }

def pool26 : Array CpInfo := pool [(2, .class_ 4), (1, u "java/lang/Object"), (0, u "<init>"), (0, u "()V"), (1, .class_ 10), (1, u "java/util/AbstractCollection"), (66, .class_ 78), (0, u "java/util/Collection")] 81

def k26m0 : Method := { name := "<init>", desc := "()V", sig := { parameters := [], returnType := none }, accessFlags := 4, code := none }
/-- java/util/AbstractCollection -/
def k26 : Class := { plain "java/util/AbstractCollection" (some 0) with
  accessFlags := 1057
  interfaces := #[25]
  cf := some (fileOf pool26 8 #[] #[mi 4 5 6] 1057 2 #[77] #[])
  fields := #[]
  methods := #[k26m0]
  instanceTypes := #[]
  staticTypes := #[]
  resolved := Array.replicate 160 none
  statics := none }

def pool27 : Array CpInfo := pool [(8, .class_ 10), (1, u "java/util/SequencedCollection"), (15, .class_ 27), (0, u "java/lang/Object"), (0, .class_ 29), (0, u "java/util/Collection")] 27

/-- java/util/SequencedCollection -/
def k27 : Class := { plain "java/util/SequencedCollection" (some 0) with
  accessFlags := 1537
  interfaces := #[25]
  cf := some (fileOf pool27 8 #[] #[] 1537 26 #[28] #[])
  fields := #[]
  methods := #[]
  instanceTypes := #[]
  staticTypes := #[]
  resolved := Array.replicate 57 none
  statics := none }

def pool28 : Array CpInfo := pool [(8, .class_ 10), (1, u "java/util/List"), (92, .class_ 104), (0, u "java/lang/Object"), (15, .class_ 121), (0, u "java/util/SequencedCollection")] 129

/-- java/util/List -/
def k28 : Class := { plain "java/util/List" (some 0) with
  accessFlags := 1537
  interfaces := #[27]
  cf := some (fileOf pool28 8 #[] #[] 1537 103 #[120] #[])
  fields := #[]
  methods := #[]
  instanceTypes := #[]
  staticTypes := #[]
  resolved := Array.replicate 251 none
  statics := none }

def pool29 : Array CpInfo := pool [(2, .class_ 4), (1, u "java/util/AbstractCollection"), (0, u "<init>"), (0, u "()V"), (1, .class_ 10), (1, u "java/util/AbstractList"), (0, u "modCount"), (0, u "I"), (64, .class_ 78), (0, u "java/util/AbstractList$Itr"), (3, .class_ 83), (0, u "java/util/AbstractList$ListItr"), (9, .class_ 94), (0, u "java/util/AbstractList$RandomAccessSubList"), (3, .class_ 99), (0, u "java/util/AbstractList$SubList"), (33, .class_ 134), (0, u "java/util/List"), (73, .class_ 209), (0, u "java/util/AbstractList$SubList$1"), (0, .class_ 211), (0, u "java/util/AbstractList$RandomAccessSpliterator")] 6

def k29m0 : Method := { name := "<init>", desc := "()V", sig := { parameters := [], returnType := none }, accessFlags := 4, code := none }
/-- java/util/AbstractList -/
def k29 : Class := { plain "java/util/AbstractList" (some 26) with
  accessFlags := 1057
  interfaces := #[28]
  cf := some (fileOf pool29 8 #[.nestMembers #[93, 98, 208, 210, 82, 77]] #[mi 4 5 6] 1057 2 #[133] #[fi 132 11 12])
  fields := #[fd "modCount" .int 132 0]
  methods := #[k29m0]
  instanceTypes := #[.int]
  staticTypes := #[]
  resolved := Array.replicate 218 none
  statics := none }

def pool30 : Array CpInfo := pool [(1, .class_ 2), (0, u "java/util/RandomAccess"), (0, .class_ 4), (0, u "java/lang/Object")] 2

/-- java/util/RandomAccess -/
def k30 : Class := { plain "java/util/RandomAccess" (some 0) with
  accessFlags := 1537
  interfaces := #[]
  cf := some (fileOf pool30 1 #[] #[] 1537 3 #[] #[])
  fields := #[]
  methods := #[]
  instanceTypes := #[]
  staticTypes := #[]
  resolved := Array.replicate 7 none
  statics := none }

def pool31 : Array CpInfo := pool [(2, .class_ 4), (1, u "java/util/AbstractList"), (0, u "<init>"), (0, u "()V"), (1, .class_ 10), (1, u "java/util/Collections"), (54, .class_ 66), (0, u "java/util/Collections$EmptyList"), (0, .class_ 68), (0, u "java/util/RandomAccess"), (0, .class_ 70), (0, u "java/io/Serializable"), (0, u "serialVersionUID"), (0, u "J")] 77

def k31m0 : Method := { name := "<init>", desc := "()V", sig := { parameters := [], returnType := none }, accessFlags := 2, code := none }
/-- java/util/Collections$EmptyList -/
def k31 : Class := { plain "java/util/Collections$EmptyList" (some 29) with
  accessFlags := 32
  interfaces := #[30, 2]
  cf := some (fileOf pool31 65 #[.nestHost 8] #[mi 2 5 6] 32 2 #[67, 69] #[fi 26 71 72])
  fields := #[fd "serialVersionUID" .long 26 0]
  methods := #[k31m0]
  instanceTypes := #[.int]
  staticTypes := #[.long]
  resolved := Array.replicate 150 none
  statics := none }

def pool32 : Array CpInfo := pool [(2, .class_ 4), (1, u "java/lang/StackTraceElement"), (0, u "<init>"), (2, .class_ 10), (1, u "java/lang/Object"), (0, u "()V"), (2, u "format"), (0, u "B"), (2, u "classLoaderName"), (0, u "Ljava/lang/String;"), (2, u "moduleName"), (2, u "moduleVersion"), (12, u "declaringClass"), (4, u "methodName"), (2, u "fileName"), (2, u "lineNumber"), (0, u "I"), (65, u "declaringClassObject"), (0, u "Ljava/lang/Class;"), (33, .class_ 153), (1, u "java/lang/StackTraceElement$HashedModules"), (17, .class_ 172), (0, u "java/io/Serializable"), (0, u "NATIVE_METHOD"), (1, u "UNKNOWN_SOURCE"), (2, u "BUILTIN_CLASS_LOADER"), (1, u "JDK_NON_UPGRADEABLE_MODULE"), (1, u "serialVersionUID"), (0, u "J")] 51

def k32m0 : Method := { name := "<init>", desc := "()V", sig := { parameters := [], returnType := none }, accessFlags := 2, code := none }
/-- java/lang/StackTraceElement -/
def k32 : Class := { plain "java/lang/StackTraceElement" (some 0) with
  accessFlags := 49
  interfaces := #[2]
  cf := some (fileOf pool32 2 #[.nestMembers #[151]] #[mi 2 5 11] 49 8 #[171] #[fi 26 173 19, fi 26 175 19, fi 130 116 117, fi 2 18 19, fi 2 22 19, fi 2 25 19, fi 2 38 19, fi 2 43 19, fi 2 46 19, fi 2 49 50, fi 2 14 15, fi 26 178 15, fi 26 180 15, fi 26 182 183])
  fields := #[fd "NATIVE_METHOD" (.object "java/lang/String") 26 0, fd "UNKNOWN_SOURCE" (.object "java/lang/String") 26 1, fd "declaringClassObject" (.object "java/lang/Class") 130 0, fd "classLoaderName" (.object "java/lang/String") 2 1, fd "moduleName" (.object "java/lang/String") 2 2, fd "moduleVersion" (.object "java/lang/String") 2 3, fd "declaringClass" (.object "java/lang/String") 2 4, fd "methodName" (.object "java/lang/String") 2 5, fd "fileName" (.object "java/lang/String") 2 6, fd "lineNumber" .int 2 7, fd "format" .byte 2 8, fd "BUILTIN_CLASS_LOADER" .byte 26 2, fd "JDK_NON_UPGRADEABLE_MODULE" .byte 26 3, fd "serialVersionUID" .long 26 4]
  methods := #[k32m0]
  instanceTypes := #[(.object "java/lang/Class"), (.object "java/lang/String"), (.object "java/lang/String"), (.object "java/lang/String"), (.object "java/lang/String"), (.object "java/lang/String"), (.object "java/lang/String"), .int, .byte]
  staticTypes := #[(.object "java/lang/String"), (.object "java/lang/String"), .byte, .byte, .long]
  resolved := Array.replicate 235 none
  statics := none }

/-- the primitive byte -/
def k33 : Class := { plain "byte" none with kind := .primitive 'B', accessFlags := 0x411 }
/-- [B -/
def k34 : Class := { plain "[B" (some 0) with kind := .array 33 .byte, interfaces := #[21, 2], accessFlags := 1041 }

/-- the primitive char -/
def k35 : Class := { plain "char" none with kind := .primitive 'C', accessFlags := 0x411 }
/-- [C -/
def k36 : Class := { plain "[C" (some 0) with kind := .array 35 .char, interfaces := #[21, 2], accessFlags := 1041 }

/-- the primitive int -/
def k37 : Class := { plain "int" none with kind := .primitive 'I', accessFlags := 0x411 }
/-- [I -/
def k38 : Class := { plain "[I" (some 0) with kind := .array 37 .int, interfaces := #[21, 2], accessFlags := 1041 }

/-- [Ljava/lang/Object; -/
def k39 : Class := { plain "[Ljava/lang/Object;" (some 0) with kind := .array 0 (.object "java/lang/Object"), interfaces := #[21, 2], accessFlags := 1041 }

/-- [Ljava/lang/StackTraceElement; -/
def k40 : Class := { plain "[Ljava/lang/StackTraceElement;" (some 0) with kind := .array 32 (.object "java/lang/StackTraceElement"), interfaces := #[21, 2], accessFlags := 1041 }

/-- [Ljava/lang/Throwable; -/
def k41 : Class := { plain "[Ljava/lang/Throwable;" (some 0) with kind := .array 9 (.object "java/lang/Throwable"), interfaces := #[21, 2], accessFlags := 1041 }

def heap : Heap := #[{ cls := 7, slots := #[.long 0, .int 1, .null, .int 0, .null, .int 0, .int 0], vm := .statics 7 },
  { cls := 9, slots := #[.long 0, .ref 5, .ref 6, .null, .null, .null, .null, .ref 7, .int 1], vm := .statics 9 },
  { cls := 19, slots := #[.null, .null, .null], vm := .statics 19 },
  { cls := 20, slots := #[.int 0, .int 8, .int 0, .int 1], vm := .statics 20 },
  { cls := 23, slots := #[.int 0, .int 0, .int 0, .int 0, .int 0, .int 0, .int 0, .int 0, .null, .null, .ref 6, .null], vm := .statics 23 },
  { cls := 40, slots := #[], vm := .none },
  { cls := 31, slots := #[.int 0], vm := .none },
  { cls := 41, slots := #[], vm := .none }]
def classes : Array Class := #[k0, k1, k2, k3, k4, k5, k6, k7, k8, k9, k10, k11, k12, k13, k14, k15, k16, k17, k18, k19, k20, k21, k22, k23, k24, k25, k26, k27, k28, k29, k30, k31, k32, k33, k34, k35, k36, k37, k38, k39, k40, k41]
def interned : List (Array UInt16 × Addr) := []
def slotsUsed : Nat := 36
def theMethod : MethodId := ⟨1, 3⟩
def args0 : Array Value := #[.int 0, .int 0, .int 0, .int 0, .int 0]
def aboutOver (below : List Frame) : State where
  vm := { classes := classes, interned := interned.toArray }
  heap := heap
  slotsUsed := slotsUsed
  threads := #[{ frames := .invoking theMethod args0 :: below }]
def below0 : List Frame := [.native { method := ⟨0, 0⟩, args := #[] }]
def about1 : State := aboutOver below0
def p0 : Program := .bare "" "" ""
def e0 : Env := launch0.env 0 0 0
theorem w_frames : about1.frames = Frame.invoking theMethod args0 :: below0 := rfl
set_option maxRecDepth 65536 in
theorem w_args : argsFit about1.vm theMethod args0 = true := by decide +kernel
set_option maxRecDepth 65536 in
theorem w_heap : heapFits about1 = true := by decide +kernel
set_option maxRecDepth 65536 in
theorem w_runnable : about1.curStatus? = some .runnable := by decide +kernel
set_option maxRecDepth 65536 in
theorem w_alone : about1.alone = true := by decide +kernel
set_option maxRecDepth 65536 in
theorem w_named : about1.methodNamed? x = some theMethod := by decide +kernel
set_option maxRecDepth 65536 in
theorem w_hears : about1.hears theMethod below0 = true := by decide +kernel
set_option maxRecDepth 65536 in
theorem w_ripe : about1.ripe theMethod args0 below0 = true := by decide +kernel
theorem w_running : about1.status = .running := rfl
set_option maxRecDepth 65536 in
theorem w_room : about1.hasRoom e0.platform room_1 = true :=
  launch0.hasRoom_least _ room_1 (by decide +kernel) (by decide +kernel) (by decide +kernel) (by decide +kernel) (by decide +kernel) (by decide +kernel)
theorem allAtoms_all (ts : List Jvm.Cond) (a : Array Jvm.Value) (st : Jvm.State) : (allAtoms ts).before a st = ts.all (fun c => c.before a st) := by
  induction ts with
  | nil => rfl
  | cons c t ih =>
    show (Jvm.Cond.and c (allAtoms t)).before a st = _
    rw [Jvm.Cond.before_and, ih, List.all_cons]
def words1 : List Jvm.Cond := Jvm.Cond.code x code maxLocals ret :: tables_1
/-- a 'code' word, met by the world's own term for the bytes: nothing is compared byte by byte -/
theorem code_word {y : MethodName} {bytes : ByteArray} {mx : Nat} {rt : Option FieldType} {a : Array Value} {s : State} {m : MethodId} {meth : Method} {c : Code} (h1 : s.methodNamed? y = some m) (h2 : s.vm.method? m = some meth) (h3 : meth.code = some c) (h4 : c.code = bytes)
    (h5 : (c.maxLocals == mx && c.exceptionTable.isEmpty && decide (c.maxStack ≤ mostOperands) && decide (meth.sig.returnType = rt) && !meth.locks && decide (parseMethodDescriptor y.desc = some meth.sig)) = true) : (Jvm.Cond.code y bytes mx rt).before a s = true := by
  simp only [Bool.and_eq_true, beq_iff_eq, Bool.not_eq_true', decide_eq_true_eq] at h5
  obtain ⟨⟨⟨⟨⟨g1, g2⟩, g3⟩, g4⟩, g5⟩, g6⟩ := h5
  simp [Cond.before, Cond.holds, Cond.value, h1, h2, h3, h4, g1, g2, g3, g4, g5, g6]
def isCode : Jvm.Cond → Bool
  | .code _ _ _ _ => true
  | _ => false
theorem all_split {L : List Jvm.Cond} {P : Jvm.Cond → Bool} (h1 : L.all (fun c => isCode c || P c) = true) (h2 : ∀ c ∈ L.filter isCode, P c = true) : L.all P = true := by
  refine List.all_eq_true.mpr fun c hc => ?_
  have h := List.all_eq_true.mp h1 c hc
  rcases Bool.eq_false_or_eq_true (isCode c) with hi | hi
  · exact h2 c (List.mem_filter.mpr ⟨hc, hi⟩)
  · simpa [hi] using h
set_option maxRecDepth 65536 in
theorem w_c0 : (Jvm.Cond.code x code maxLocals ret).before args0 about1 = true := code_word (m := ⟨1, 3⟩) (meth := k1m3) (c := k1c3) (by decide +kernel) rfl rfl rfl (by decide +kernel)
set_option maxRecDepth 65536 in
theorem w_c1 : (Jvm.Cond.code y_29 method_2_code (4 : Nat) (Option.some (Jvm.ClassFile.FieldType.object "java/lang/String"))).before args0 about1 = true := code_word (m := ⟨1, 1⟩) (meth := k1m1) (c := k1c1) (by decide +kernel) rfl rfl rfl (by decide +kernel)
set_option maxRecDepth 65536 in
theorem w_c2 : (Jvm.Cond.code y_28 jdk_42_method_3_code (2 : Nat) (Option.none : Option Jvm.ClassFile.FieldType)).before args0 about1 = true := code_word (m := ⟨7, 1⟩) (meth := k7m1) (c := k7c1) (by decide +kernel) rfl rfl rfl (by decide +kernel)
set_option maxRecDepth 65536 in
theorem w_c3 : (Jvm.Cond.code y_27 jdk_42_method_149_code (6 : Nat) (Option.none : Option Jvm.ClassFile.FieldType)).before args0 about1 = true := code_word (m := ⟨7, 7⟩) (meth := k7m7) (c := k7c7) (by decide +kernel) rfl rfl rfl (by decide +kernel)
set_option maxRecDepth 65536 in
theorem w_c4 : (Jvm.Cond.code ({ cls := "java/lang/Object", name := "<init>", desc := "()V" } : Jvm.MethodName) object_method_1_code (1 : Nat) (Option.none : Option Jvm.ClassFile.FieldType)).before args0 about1 = true := code_word (m := ⟨0, 0⟩) (meth := k0m0) (c := k0c0) (by decide +kernel) rfl rfl rfl (by decide +kernel)
set_option maxRecDepth 65536 in
theorem w_c5 : (Jvm.Cond.code y_54 prog_4_method_13_code (2 : Nat) (Option.some (Jvm.ClassFile.FieldType.object "com/example/kwerx/kwerx/InvalidInputException"))).before args0 about1 = true := code_word (m := ⟨8, 0⟩) (meth := k8m0) (c := k8c0) (by decide +kernel) rfl rfl rfl (by decide +kernel)
set_option maxRecDepth 65536 in
theorem w_c6 : (Jvm.Cond.code y_31 jdk_67_method_1_code (1 : Nat) (Option.none : Option Jvm.ClassFile.FieldType)).before args0 about1 = true := code_word (m := ⟨14, 0⟩) (meth := k14m0) (c := k14c0) (by decide +kernel) rfl rfl rfl (by decide +kernel)
set_option maxRecDepth 65536 in
theorem w_c7 : (Jvm.Cond.code y_30 jdk_68_method_2_code (2 : Nat) (Option.none : Option Jvm.ClassFile.FieldType)).before args0 about1 = true := code_word (m := ⟨13, 1⟩) (meth := k13m1) (c := k13c1) (by decide +kernel) rfl rfl rfl (by decide +kernel)
set_option maxRecDepth 65536 in
theorem w_c8 : (Jvm.Cond.code y_40 jdk_67_method_7_code (2 : Nat) (Option.some (Jvm.ClassFile.FieldType.object "java/lang/StringBuilder"))).before args0 about1 = true := code_word (m := ⟨14, 1⟩) (meth := k14m1) (c := k14c1) (by decide +kernel) rfl rfl rfl (by decide +kernel)
set_option maxRecDepth 65536 in
theorem w_c9 : (Jvm.Cond.code y_39 jdk_68_method_22_code (3 : Nat) (Option.some (Jvm.ClassFile.FieldType.object "java/lang/AbstractStringBuilder"))).before args0 about1 = true := code_word (m := ⟨13, 5⟩) (meth := k13m5) (c := k13c5) (by decide +kernel) rfl rfl rfl (by decide +kernel)
set_option maxRecDepth 65536 in
theorem w_c10 : (Jvm.Cond.code y_3 jdk_42_method_54_code (1 : Nat) (Option.some Jvm.ClassFile.FieldType.int)).before args0 about1 = true := code_word (m := ⟨7, 3⟩) (meth := k7m3) (c := k7c3) (by decide +kernel) rfl rfl rfl (by decide +kernel)
set_option maxRecDepth 65536 in
theorem w_c11 : (Jvm.Cond.code y_0 jdk_42_method_152_code (1 : Nat) (Option.some Jvm.ClassFile.FieldType.byte)).before args0 about1 = true := code_word (m := ⟨7, 10⟩) (meth := k7m10) (c := k7c10) (by decide +kernel) rfl rfl rfl (by decide +kernel)
set_option maxRecDepth 65536 in
theorem w_c12 : (Jvm.Cond.code y_38 jdk_68_method_9_code (3 : Nat) (Option.none : Option Jvm.ClassFile.FieldType)).before args0 about1 = true := code_word (m := ⟨13, 3⟩) (meth := k13m3) (c := k13c3) (by decide +kernel) rfl rfl rfl (by decide +kernel)
set_option maxRecDepth 65536 in
theorem w_c13 : (Jvm.Cond.code y_37 jdk_68_method_73_code (3 : Nat) (Option.none : Option Jvm.ClassFile.FieldType)).before args0 about1 = true := code_word (m := ⟨13, 9⟩) (meth := k13m9) (c := k13c9) (by decide +kernel) rfl rfl rfl (by decide +kernel)
set_option maxRecDepth 65536 in
theorem w_c14 : (Jvm.Cond.code y_35 jdk_68_method_71_code (2 : Nat) (Option.none : Option Jvm.ClassFile.FieldType)).before args0 about1 = true := code_word (m := ⟨13, 8⟩) (meth := k13m8) (c := k13c8) (by decide +kernel) rfl rfl rfl (by decide +kernel)
set_option maxRecDepth 65536 in
theorem w_c15 : (Jvm.Cond.code y_36 jdk_42_method_147_code (4 : Nat) (Option.none : Option Jvm.ClassFile.FieldType)).before args0 about1 = true := code_word (m := ⟨7, 6⟩) (meth := k7m6) (c := k7c6) (by decide +kernel) rfl rfl rfl (by decide +kernel)
set_option maxRecDepth 65536 in
theorem w_c16 : (Jvm.Cond.code y_50 jdk_67_method_42_code (1 : Nat) (Option.some (Jvm.ClassFile.FieldType.object "java/lang/String"))).before args0 about1 = true := code_word (m := ⟨14, 2⟩) (meth := k14m2) (c := k14c2) (by decide +kernel) rfl rfl rfl (by decide +kernel)
set_option maxRecDepth 65536 in
theorem w_c17 : (Jvm.Cond.code y_49 jdk_42_method_53_code (2 : Nat) (Option.none : Option Jvm.ClassFile.FieldType)).before args0 about1 = true := code_word (m := ⟨7, 2⟩) (meth := k7m2) (c := k7c2) (by decide +kernel) rfl rfl rfl (by decide +kernel)
set_option maxRecDepth 65536 in
theorem w_c18 : (Jvm.Cond.code y_48 jdk_42_method_150_code (5 : Nat) (Option.none : Option Jvm.ClassFile.FieldType)).before args0 about1 = true := code_word (m := ⟨7, 8⟩) (meth := k7m8) (c := k7c8) (by decide +kernel) rfl rfl rfl (by decide +kernel)
set_option maxRecDepth 65536 in
theorem w_c19 : (Jvm.Cond.code y_45 jdk_68_method_64_code (1 : Nat) (Option.some (Jvm.ClassFile.FieldType.array Jvm.ClassFile.FieldType.byte))).before args0 about1 = true := code_word (m := ⟨13, 6⟩) (meth := k13m6) (c := k13c6) (by decide +kernel) rfl rfl rfl (by decide +kernel)
set_option maxRecDepth 65536 in
theorem w_c20 : (Jvm.Cond.code y_47 jdk_67_method_93_code (1 : Nat) (Option.some Jvm.ClassFile.FieldType.int)).before args0 about1 = true := code_word (m := ⟨14, 3⟩) (meth := k14m3) (c := k14c3) (by decide +kernel) rfl rfl rfl (by decide +kernel)
set_option maxRecDepth 65536 in
theorem w_c21 : (Jvm.Cond.code y_46 jdk_68_method_6_code (1 : Nat) (Option.some Jvm.ClassFile.FieldType.int)).before args0 about1 = true := code_word (m := ⟨13, 2⟩) (meth := k13m2) (c := k13c2) (by decide +kernel) rfl rfl rfl (by decide +kernel)
set_option maxRecDepth 65536 in
theorem w_c22 : (Jvm.Cond.code y_2 jdk_68_method_68_code (1 : Nat) (Option.some Jvm.ClassFile.FieldType.boolean)).before args0 about1 = true := code_word (m := ⟨13, 7⟩) (meth := k13m7) (c := k13c7) (by decide +kernel) rfl rfl rfl (by decide +kernel)
set_option maxRecDepth 65536 in
theorem w_c23 : (Jvm.Cond.code y_44 jdk_65_method_132_code (3 : Nat) (Option.some (Jvm.ClassFile.FieldType.array Jvm.ClassFile.FieldType.byte))).before args0 about1 = true := code_word (m := ⟨16, 2⟩) (meth := k16m2) (c := k16c2) (by decide +kernel) rfl rfl rfl (by decide +kernel)
set_option maxRecDepth 65536 in
theorem w_c24 : (Jvm.Cond.code y_43 jdk_65_method_133_code (5 : Nat) (Option.some (Jvm.ClassFile.FieldType.array Jvm.ClassFile.FieldType.byte))).before args0 about1 = true := code_word (m := ⟨16, 3⟩) (meth := k16m3) (c := k16c3) (by decide +kernel) rfl rfl rfl (by decide +kernel)
set_option maxRecDepth 65536 in
theorem w_c25 : (Jvm.Cond.code y_42 jdk_65_method_131_code (2 : Nat) (Option.none : Option Jvm.ClassFile.FieldType)).before args0 about1 = true := code_word (m := ⟨16, 1⟩) (meth := k16m1) (c := k16c1) (by decide +kernel) rfl rfl rfl (by decide +kernel)
set_option maxRecDepth 65536 in
theorem w_c26 : (Jvm.Cond.code y_41 jdk_29_method_69_code (2 : Nat) (Option.some Jvm.ClassFile.FieldType.int)).before args0 about1 = true := code_word (m := ⟨17, 1⟩) (meth := k17m1) (c := k17c1) (by decide +kernel) rfl rfl rfl (by decide +kernel)
set_option maxRecDepth 65536 in
theorem w_c27 : (Jvm.Cond.code y_53 prog_1_method_1_code (2 : Nat) (Option.none : Option Jvm.ClassFile.FieldType)).before args0 about1 = true := code_word (m := ⟨11, 0⟩) (meth := k11m0) (c := k11c0) (by decide +kernel) rfl rfl rfl (by decide +kernel)
set_option maxRecDepth 65536 in
theorem w_c28 : (Jvm.Cond.code y_52 jdk_59_method_2_code (2 : Nat) (Option.none : Option Jvm.ClassFile.FieldType)).before args0 about1 = true := code_word (m := ⟨10, 1⟩) (meth := k10m1) (c := k10c1) (by decide +kernel) rfl rfl rfl (by decide +kernel)
set_option maxRecDepth 65536 in
theorem w_c29 : (Jvm.Cond.code y_51 jdk_78_method_2_code (2 : Nat) (Option.none : Option Jvm.ClassFile.FieldType)).before args0 about1 = true := code_word (m := ⟨9, 1⟩) (meth := k9m1) (c := k9c1) (by decide +kernel) rfl rfl rfl (by decide +kernel)
set_option maxRecDepth 65536 in
theorem w_c30 : (Jvm.Cond.code ({ cls := "java/lang/Throwable", name := "<init>", desc := "()V" } : Jvm.MethodName) jdk_78_method_1_code (1 : Nat) (Option.none : Option Jvm.ClassFile.FieldType)).before args0 about1 = true := code_word (m := ⟨9, 0⟩) (meth := k9m0) (c := k9c0) (by decide +kernel) rfl rfl rfl (by decide +kernel)
set_option maxRecDepth 65536 in
theorem w_c31 : (Jvm.Cond.code y_55 jdk_78_method_6_code (1 : Nat) (Option.some (Jvm.ClassFile.FieldType.object "java/lang/String"))).before args0 about1 = true := code_word (m := ⟨9, 2⟩) (meth := k9m2) (c := k9c2) (by decide +kernel) rfl rfl rfl (by decide +kernel)
set_option maxRecDepth 65536 in
theorem w_c32 : (Jvm.Cond.code y_56 method_3_code (7 : Nat) (Option.some Jvm.ClassFile.FieldType.boolean)).before args0 about1 = true := code_word (m := ⟨1, 2⟩) (meth := k1m2) (c := k1c2) (by decide +kernel) rfl rfl rfl (by decide +kernel)
set_option maxRecDepth 65536 in
theorem w_c33 : (Jvm.Cond.code y_15 jdk_42_method_56_code (2 : Nat) (Option.some Jvm.ClassFile.FieldType.char)).before args0 about1 = true := code_word (m := ⟨7, 4⟩) (meth := k7m4) (c := k7c4) (by decide +kernel) rfl rfl rfl (by decide +kernel)
set_option maxRecDepth 65536 in
theorem w_c34 : (Jvm.Cond.code y_1 jdk_42_method_154_code (1 : Nat) (Option.some Jvm.ClassFile.FieldType.boolean)).before args0 about1 = true := code_word (m := ⟨7, 11⟩) (meth := k7m11) (c := k7c11) (by decide +kernel) rfl rfl rfl (by decide +kernel)
set_option maxRecDepth 65536 in
theorem w_c35 : (Jvm.Cond.code y_13 jdk_43_method_2_code (2 : Nat) (Option.some Jvm.ClassFile.FieldType.char)).before args0 about1 = true := code_word (m := ⟨18, 1⟩) (meth := k18m1) (c := k18c1) (by decide +kernel) rfl rfl rfl (by decide +kernel)
set_option maxRecDepth 65536 in
theorem w_c36 : (Jvm.Cond.code y_5 jdk_42_method_155_code (2 : Nat) (Option.none : Option Jvm.ClassFile.FieldType)).before args0 about1 = true := code_word (m := ⟨7, 12⟩) (meth := k7m12) (c := k7c12) (by decide +kernel) rfl rfl rfl (by decide +kernel)
set_option maxRecDepth 65536 in
theorem w_c37 : (Jvm.Cond.code y_4 jdk_41_method_11_code (3 : Nat) (Option.some Jvm.ClassFile.FieldType.int)).before args0 about1 = true := code_word (m := ⟨19, 1⟩) (meth := k19m1) (c := k19c1) (by decide +kernel) rfl rfl rfl (by decide +kernel)
set_option maxRecDepth 65536 in
theorem w_c38 : (Jvm.Cond.code y_25 jdk_52_method_16_code (6 : Nat) (Option.some (Jvm.ClassFile.FieldType.array Jvm.ClassFile.FieldType.byte))).before args0 about1 = true := code_word (m := ⟨20, 8⟩) (meth := k20m8) (c := k20c8) (by decide +kernel) rfl rfl rfl (by decide +kernel)
set_option maxRecDepth 65536 in
theorem w_c39 : (Jvm.Cond.code y_24 jdk_52_method_21_code (7 : Nat) (Option.some Jvm.ClassFile.FieldType.int)).before args0 about1 = true := code_word (m := ⟨20, 9⟩) (meth := k20m9) (c := k20c9) (by decide +kernel) rfl rfl rfl (by decide +kernel)
set_option maxRecDepth 65536 in
theorem w_c40 : (Jvm.Cond.code y_26 jdk_52_method_15_code (2 : Nat) (Option.some Jvm.ClassFile.FieldType.byte)).before args0 about1 = true := code_word (m := ⟨20, 7⟩) (meth := k20m7) (c := k20c7) (by decide +kernel) rfl rfl rfl (by decide +kernel)
set_option maxRecDepth 65536 in
theorem w_c41 : (Jvm.Cond.code y_22 jdk_42_method_139_code (1 : Nat) (Option.some (Jvm.ClassFile.FieldType.object "java/lang/String"))).before args0 about1 = true := code_word (m := ⟨7, 5⟩) (meth := k7m5) (c := k7c5) (by decide +kernel) rfl rfl rfl (by decide +kernel)
set_option maxRecDepth 65536 in
theorem w_c42 : (Jvm.Cond.code y_18 jdk_43_method_3_code (1 : Nat) (Option.some Jvm.ClassFile.FieldType.boolean)).before args0 about1 = true := code_word (m := ⟨18, 2⟩) (meth := k18m2) (c := k18c2) (by decide +kernel) rfl rfl rfl (by decide +kernel)
set_option maxRecDepth 65536 in
theorem w_c43 : (Jvm.Cond.code y_19 jdk_43_method_46_code (1 : Nat) (Option.some (Jvm.ClassFile.FieldType.array Jvm.ClassFile.FieldType.byte))).before args0 about1 = true := code_word (m := ⟨18, 3⟩) (meth := k18m3) (c := k18c3) (by decide +kernel) rfl rfl rfl (by decide +kernel)
set_option maxRecDepth 65536 in
theorem w_c44 : (Jvm.Cond.code y_21 jdk_42_method_151_code (3 : Nat) (Option.none : Option Jvm.ClassFile.FieldType)).before args0 about1 = true := code_word (m := ⟨7, 9⟩) (meth := k7m9) (c := k7c9) (by decide +kernel) rfl rfl rfl (by decide +kernel)
set_option maxRecDepth 65536 in
theorem w_c45 : (Jvm.Cond.code y_23 jdk_52_method_14_code (5 : Nat) (Option.some (Jvm.ClassFile.FieldType.array Jvm.ClassFile.FieldType.byte))).before args0 about1 = true := code_word (m := ⟨20, 6⟩) (meth := k20m6) (c := k20c6) (by decide +kernel) rfl rfl rfl (by decide +kernel)
set_option maxRecDepth 65536 in
theorem w_c46 : (Jvm.Cond.code y_17 jdk_52_method_2_code (1 : Nat) (Option.some (Jvm.ClassFile.FieldType.array Jvm.ClassFile.FieldType.byte))).before args0 about1 = true := code_word (m := ⟨20, 1⟩) (meth := k20m1) (c := k20c1) (by decide +kernel) rfl rfl rfl (by decide +kernel)
set_option maxRecDepth 65536 in
theorem w_c47 : (Jvm.Cond.code y_16 jdk_52_method_3_code (1 : Nat) (Option.some Jvm.ClassFile.FieldType.int)).before args0 about1 = true := code_word (m := ⟨20, 2⟩) (meth := k20m2) (c := k20c2) (by decide +kernel) rfl rfl rfl (by decide +kernel)
set_option maxRecDepth 65536 in
theorem w_c48 : (Jvm.Cond.code y_11 jdk_52_method_4_code (3 : Nat) (Option.none : Option Jvm.ClassFile.FieldType)).before args0 about1 = true := code_word (m := ⟨20, 3⟩) (meth := k20m3) (c := k20c3) (by decide +kernel) rfl rfl rfl (by decide +kernel)
set_option maxRecDepth 65536 in
theorem w_c49 : (Jvm.Cond.code y_12 jdk_52_method_5_code (2 : Nat) (Option.some Jvm.ClassFile.FieldType.char)).before args0 about1 = true := code_word (m := ⟨20, 4⟩) (meth := k20m4) (c := k20c4) (by decide +kernel) rfl rfl rfl (by decide +kernel)
set_option maxRecDepth 65536 in
theorem w_c50 : (Jvm.Cond.code y_34 jdk_68_method_11_code (2 : Nat) (Option.none : Option Jvm.ClassFile.FieldType)).before args0 about1 = true := code_word (m := ⟨13, 4⟩) (meth := k13m4) (c := k13c4) (by decide +kernel) rfl rfl rfl (by decide +kernel)
set_option maxRecDepth 65536 in
theorem w_c51 : (Jvm.Cond.code y_33 jdk_43_method_50_code (5 : Nat) (Option.none : Option Jvm.ClassFile.FieldType)).before args0 about1 = true := code_word (m := ⟨18, 4⟩) (meth := k18m4) (c := k18c4) (by decide +kernel) rfl rfl rfl (by decide +kernel)
set_option maxRecDepth 65536 in
theorem w_c52 : (Jvm.Cond.code y_32 jdk_52_method_86_code (6 : Nat) (Option.none : Option Jvm.ClassFile.FieldType)).before args0 about1 = true := code_word (m := ⟨20, 12⟩) (meth := k20m12) (c := k20c12) (by decide +kernel) rfl rfl rfl (by decide +kernel)
set_option maxRecDepth 65536 in
theorem w_c53 : (Jvm.Cond.code y_10 jdk_52_method_94_code (3 : Nat) (Option.none : Option Jvm.ClassFile.FieldType)).before args0 about1 = true := code_word (m := ⟨20, 14⟩) (meth := k20m14) (c := k20c14) (by decide +kernel) rfl rfl rfl (by decide +kernel)
set_option maxRecDepth 65536 in
theorem w_c54 : (Jvm.Cond.code y_6 jdk_52_method_6_code (1 : Nat) (Option.some Jvm.ClassFile.FieldType.int)).before args0 about1 = true := code_word (m := ⟨20, 5⟩) (meth := k20m5) (c := k20c5) (by decide +kernel) rfl rfl rfl (by decide +kernel)
set_option maxRecDepth 65536 in
theorem w_c55 : (Jvm.Cond.code y_9 jdk_42_method_157_code (3 : Nat) (Option.some Jvm.ClassFile.FieldType.int)).before args0 about1 = true := code_word (m := ⟨7, 13⟩) (meth := k7m13) (c := k7c13) (by decide +kernel) rfl rfl rfl (by decide +kernel)
set_option maxRecDepth 65536 in
theorem w_c56 : (Jvm.Cond.code y_8 jdk_41_method_13_code (4 : Nat) (Option.some Jvm.ClassFile.FieldType.int)).before args0 about1 = true := code_word (m := ⟨19, 2⟩) (meth := k19m2) (c := k19c2) (by decide +kernel) rfl rfl rfl (by decide +kernel)
set_option maxRecDepth 65536 in
theorem w_c57 : (Jvm.Cond.code y_14 jdk_52_method_83_code (2 : Nat) (Option.some Jvm.ClassFile.FieldType.char)).before args0 about1 = true := code_word (m := ⟨20, 11⟩) (meth := k20m11) (c := k20c11) (by decide +kernel) rfl rfl rfl (by decide +kernel)
set_option maxRecDepth 65536 in
theorem w_c58 : (Jvm.Cond.code y_7 jdk_52_method_91_code (2 : Nat) (Option.none : Option Jvm.ClassFile.FieldType)).before args0 about1 = true := code_word (m := ⟨20, 13⟩) (meth := k20m13) (c := k20c13) (by decide +kernel) rfl rfl rfl (by decide +kernel)
set_option maxRecDepth 65536 in
theorem w_c59 : (Jvm.Cond.code y_20 jdk_52_method_24_code (2 : Nat) (Option.some (Jvm.ClassFile.FieldType.array Jvm.ClassFile.FieldType.byte))).before args0 about1 = true := code_word (m := ⟨20, 10⟩) (meth := k20m10) (c := k20c10) (by decide +kernel) rfl rfl rfl (by decide +kernel)
def codes1 : List Jvm.Cond := [Jvm.Cond.code x code maxLocals ret, Jvm.Cond.code y_29 method_2_code (4 : Nat) (Option.some (Jvm.ClassFile.FieldType.object "java/lang/String")), Jvm.Cond.code y_28 jdk_42_method_3_code (2 : Nat) (Option.none : Option Jvm.ClassFile.FieldType), Jvm.Cond.code y_27 jdk_42_method_149_code (6 : Nat) (Option.none : Option Jvm.ClassFile.FieldType), Jvm.Cond.code ({ cls := "java/lang/Object", name := "<init>", desc := "()V" } : Jvm.MethodName) object_method_1_code (1 : Nat) (Option.none : Option Jvm.ClassFile.FieldType), Jvm.Cond.code y_54 prog_4_method_13_code (2 : Nat) (Option.some (Jvm.ClassFile.FieldType.object "com/example/kwerx/kwerx/InvalidInputException")), Jvm.Cond.code y_31 jdk_67_method_1_code (1 : Nat) (Option.none : Option Jvm.ClassFile.FieldType), Jvm.Cond.code y_30 jdk_68_method_2_code (2 : Nat) (Option.none : Option Jvm.ClassFile.FieldType), Jvm.Cond.code y_40 jdk_67_method_7_code (2 : Nat) (Option.some (Jvm.ClassFile.FieldType.object "java/lang/StringBuilder")), Jvm.Cond.code y_39 jdk_68_method_22_code (3 : Nat) (Option.some (Jvm.ClassFile.FieldType.object "java/lang/AbstractStringBuilder")), Jvm.Cond.code y_3 jdk_42_method_54_code (1 : Nat) (Option.some Jvm.ClassFile.FieldType.int), Jvm.Cond.code y_0 jdk_42_method_152_code (1 : Nat) (Option.some Jvm.ClassFile.FieldType.byte), Jvm.Cond.code y_38 jdk_68_method_9_code (3 : Nat) (Option.none : Option Jvm.ClassFile.FieldType), Jvm.Cond.code y_37 jdk_68_method_73_code (3 : Nat) (Option.none : Option Jvm.ClassFile.FieldType), Jvm.Cond.code y_35 jdk_68_method_71_code (2 : Nat) (Option.none : Option Jvm.ClassFile.FieldType), Jvm.Cond.code y_36 jdk_42_method_147_code (4 : Nat) (Option.none : Option Jvm.ClassFile.FieldType), Jvm.Cond.code y_50 jdk_67_method_42_code (1 : Nat) (Option.some (Jvm.ClassFile.FieldType.object "java/lang/String")), Jvm.Cond.code y_49 jdk_42_method_53_code (2 : Nat) (Option.none : Option Jvm.ClassFile.FieldType), Jvm.Cond.code y_48 jdk_42_method_150_code (5 : Nat) (Option.none : Option Jvm.ClassFile.FieldType), Jvm.Cond.code y_45 jdk_68_method_64_code (1 : Nat) (Option.some (Jvm.ClassFile.FieldType.array Jvm.ClassFile.FieldType.byte)), Jvm.Cond.code y_47 jdk_67_method_93_code (1 : Nat) (Option.some Jvm.ClassFile.FieldType.int), Jvm.Cond.code y_46 jdk_68_method_6_code (1 : Nat) (Option.some Jvm.ClassFile.FieldType.int), Jvm.Cond.code y_2 jdk_68_method_68_code (1 : Nat) (Option.some Jvm.ClassFile.FieldType.boolean), Jvm.Cond.code y_44 jdk_65_method_132_code (3 : Nat) (Option.some (Jvm.ClassFile.FieldType.array Jvm.ClassFile.FieldType.byte)), Jvm.Cond.code y_43 jdk_65_method_133_code (5 : Nat) (Option.some (Jvm.ClassFile.FieldType.array Jvm.ClassFile.FieldType.byte)), Jvm.Cond.code y_42 jdk_65_method_131_code (2 : Nat) (Option.none : Option Jvm.ClassFile.FieldType), Jvm.Cond.code y_41 jdk_29_method_69_code (2 : Nat) (Option.some Jvm.ClassFile.FieldType.int), Jvm.Cond.code y_53 prog_1_method_1_code (2 : Nat) (Option.none : Option Jvm.ClassFile.FieldType), Jvm.Cond.code y_52 jdk_59_method_2_code (2 : Nat) (Option.none : Option Jvm.ClassFile.FieldType), Jvm.Cond.code y_51 jdk_78_method_2_code (2 : Nat) (Option.none : Option Jvm.ClassFile.FieldType), Jvm.Cond.code ({ cls := "java/lang/Throwable", name := "<init>", desc := "()V" } : Jvm.MethodName) jdk_78_method_1_code (1 : Nat) (Option.none : Option Jvm.ClassFile.FieldType), Jvm.Cond.code y_55 jdk_78_method_6_code (1 : Nat) (Option.some (Jvm.ClassFile.FieldType.object "java/lang/String")), Jvm.Cond.code y_56 method_3_code (7 : Nat) (Option.some Jvm.ClassFile.FieldType.boolean), Jvm.Cond.code y_15 jdk_42_method_56_code (2 : Nat) (Option.some Jvm.ClassFile.FieldType.char), Jvm.Cond.code y_1 jdk_42_method_154_code (1 : Nat) (Option.some Jvm.ClassFile.FieldType.boolean), Jvm.Cond.code y_13 jdk_43_method_2_code (2 : Nat) (Option.some Jvm.ClassFile.FieldType.char), Jvm.Cond.code y_5 jdk_42_method_155_code (2 : Nat) (Option.none : Option Jvm.ClassFile.FieldType), Jvm.Cond.code y_4 jdk_41_method_11_code (3 : Nat) (Option.some Jvm.ClassFile.FieldType.int), Jvm.Cond.code y_25 jdk_52_method_16_code (6 : Nat) (Option.some (Jvm.ClassFile.FieldType.array Jvm.ClassFile.FieldType.byte)), Jvm.Cond.code y_24 jdk_52_method_21_code (7 : Nat) (Option.some Jvm.ClassFile.FieldType.int), Jvm.Cond.code y_26 jdk_52_method_15_code (2 : Nat) (Option.some Jvm.ClassFile.FieldType.byte), Jvm.Cond.code y_22 jdk_42_method_139_code (1 : Nat) (Option.some (Jvm.ClassFile.FieldType.object "java/lang/String")), Jvm.Cond.code y_18 jdk_43_method_3_code (1 : Nat) (Option.some Jvm.ClassFile.FieldType.boolean), Jvm.Cond.code y_19 jdk_43_method_46_code (1 : Nat) (Option.some (Jvm.ClassFile.FieldType.array Jvm.ClassFile.FieldType.byte)), Jvm.Cond.code y_21 jdk_42_method_151_code (3 : Nat) (Option.none : Option Jvm.ClassFile.FieldType), Jvm.Cond.code y_23 jdk_52_method_14_code (5 : Nat) (Option.some (Jvm.ClassFile.FieldType.array Jvm.ClassFile.FieldType.byte)), Jvm.Cond.code y_17 jdk_52_method_2_code (1 : Nat) (Option.some (Jvm.ClassFile.FieldType.array Jvm.ClassFile.FieldType.byte)), Jvm.Cond.code y_16 jdk_52_method_3_code (1 : Nat) (Option.some Jvm.ClassFile.FieldType.int), Jvm.Cond.code y_11 jdk_52_method_4_code (3 : Nat) (Option.none : Option Jvm.ClassFile.FieldType), Jvm.Cond.code y_12 jdk_52_method_5_code (2 : Nat) (Option.some Jvm.ClassFile.FieldType.char), Jvm.Cond.code y_34 jdk_68_method_11_code (2 : Nat) (Option.none : Option Jvm.ClassFile.FieldType), Jvm.Cond.code y_33 jdk_43_method_50_code (5 : Nat) (Option.none : Option Jvm.ClassFile.FieldType), Jvm.Cond.code y_32 jdk_52_method_86_code (6 : Nat) (Option.none : Option Jvm.ClassFile.FieldType), Jvm.Cond.code y_10 jdk_52_method_94_code (3 : Nat) (Option.none : Option Jvm.ClassFile.FieldType), Jvm.Cond.code y_6 jdk_52_method_6_code (1 : Nat) (Option.some Jvm.ClassFile.FieldType.int), Jvm.Cond.code y_9 jdk_42_method_157_code (3 : Nat) (Option.some Jvm.ClassFile.FieldType.int), Jvm.Cond.code y_8 jdk_41_method_13_code (4 : Nat) (Option.some Jvm.ClassFile.FieldType.int), Jvm.Cond.code y_14 jdk_52_method_83_code (2 : Nat) (Option.some Jvm.ClassFile.FieldType.char), Jvm.Cond.code y_7 jdk_52_method_91_code (2 : Nat) (Option.none : Option Jvm.ClassFile.FieldType), Jvm.Cond.code y_20 jdk_52_method_24_code (2 : Nat) (Option.some (Jvm.ClassFile.FieldType.array Jvm.ClassFile.FieldType.byte))]
set_option maxRecDepth 65536 in
theorem codes_eq : words1.filter isCode = codes1 := rfl
theorem w_codes : ∀ c ∈ words1.filter isCode, c.before args0 about1 = true := by
  rw [codes_eq]
  intro c hc
  simp only [codes1, List.mem_cons, List.not_mem_nil, or_false] at hc
  rcases hc with rfl | rfl | rfl | rfl | rfl | rfl | rfl | rfl | rfl | rfl | rfl | rfl | rfl | rfl | rfl | rfl | rfl | rfl | rfl | rfl | rfl | rfl | rfl | rfl | rfl | rfl | rfl | rfl | rfl | rfl | rfl | rfl | rfl | rfl | rfl | rfl | rfl | rfl | rfl | rfl | rfl | rfl | rfl | rfl | rfl | rfl | rfl | rfl | rfl | rfl | rfl | rfl | rfl | rfl | rfl | rfl | rfl | rfl | rfl | rfl
  · exact w_c0
  · exact w_c1
  · exact w_c2
  · exact w_c3
  · exact w_c4
  · exact w_c5
  · exact w_c6
  · exact w_c7
  · exact w_c8
  · exact w_c9
  · exact w_c10
  · exact w_c11
  · exact w_c12
  · exact w_c13
  · exact w_c14
  · exact w_c15
  · exact w_c16
  · exact w_c17
  · exact w_c18
  · exact w_c19
  · exact w_c20
  · exact w_c21
  · exact w_c22
  · exact w_c23
  · exact w_c24
  · exact w_c25
  · exact w_c26
  · exact w_c27
  · exact w_c28
  · exact w_c29
  · exact w_c30
  · exact w_c31
  · exact w_c32
  · exact w_c33
  · exact w_c34
  · exact w_c35
  · exact w_c36
  · exact w_c37
  · exact w_c38
  · exact w_c39
  · exact w_c40
  · exact w_c41
  · exact w_c42
  · exact w_c43
  · exact w_c44
  · exact w_c45
  · exact w_c46
  · exact w_c47
  · exact w_c48
  · exact w_c49
  · exact w_c50
  · exact w_c51
  · exact w_c52
  · exact w_c53
  · exact w_c54
  · exact w_c55
  · exact w_c56
  · exact w_c57
  · exact w_c58
  · exact w_c59
set_option maxRecDepth 65536 in
theorem w_t1 : (words1.take 24).all (fun c => isCode c || c.before args0 about1) = true := by decide +kernel
set_option maxRecDepth 65536 in
theorem w_t2 : ((words1.drop 24).take 24).all (fun c => isCode c || c.before args0 about1) = true := by decide +kernel
set_option maxRecDepth 65536 in
theorem w_t3 : (((words1.drop 24).drop 24).take 24).all (fun c => isCode c || c.before args0 about1) = true := by decide +kernel
set_option maxRecDepth 65536 in
theorem w_t4 : ((((words1.drop 24).drop 24).drop 24).take 24).all (fun c => isCode c || c.before args0 about1) = true := by decide +kernel
set_option maxRecDepth 65536 in
theorem w_t5 : (((((words1.drop 24).drop 24).drop 24).drop 24).take 24).all (fun c => isCode c || c.before args0 about1) = true := by decide +kernel
set_option maxRecDepth 65536 in
theorem w_t6 : ((((((words1.drop 24).drop 24).drop 24).drop 24).drop 24).take 24).all (fun c => isCode c || c.before args0 about1) = true := by decide +kernel
set_option maxRecDepth 65536 in
theorem w_t7 : (((((((words1.drop 24).drop 24).drop 24).drop 24).drop 24).drop 24).take 24).all (fun c => isCode c || c.before args0 about1) = true := by decide +kernel
set_option maxRecDepth 65536 in
theorem w_t8 : ((((((((words1.drop 24).drop 24).drop 24).drop 24).drop 24).drop 24).drop 24).take 24).all (fun c => isCode c || c.before args0 about1) = true := by decide +kernel
set_option maxRecDepth 65536 in
theorem w_t9 : (((((((((words1.drop 24).drop 24).drop 24).drop 24).drop 24).drop 24).drop 24).drop 24).take 24).all (fun c => isCode c || c.before args0 about1) = true := by decide +kernel
set_option maxRecDepth 65536 in
theorem w_t10 : ((((((((((words1.drop 24).drop 24).drop 24).drop 24).drop 24).drop 24).drop 24).drop 24).drop 24).take 24).all (fun c => isCode c || c.before args0 about1) = true := by decide +kernel
set_option maxRecDepth 65536 in
theorem w_t11 : (((((((((((words1.drop 24).drop 24).drop 24).drop 24).drop 24).drop 24).drop 24).drop 24).drop 24).drop 24).take 24).all (fun c => isCode c || c.before args0 about1) = true := by decide +kernel
set_option maxRecDepth 65536 in
theorem w_t12 : ((((((((((((words1.drop 24).drop 24).drop 24).drop 24).drop 24).drop 24).drop 24).drop 24).drop 24).drop 24).drop 24).take 24).all (fun c => isCode c || c.before args0 about1) = true := by decide +kernel
set_option maxRecDepth 65536 in
theorem w_t13 : (((((((((((((words1.drop 24).drop 24).drop 24).drop 24).drop 24).drop 24).drop 24).drop 24).drop 24).drop 24).drop 24).drop 24).take 24).all (fun c => isCode c || c.before args0 about1) = true := by decide +kernel
set_option maxRecDepth 65536 in
theorem w_t14 : (((((((((((((words1.drop 24).drop 24).drop 24).drop 24).drop 24).drop 24).drop 24).drop 24).drop 24).drop 24).drop 24).drop 24).drop 24).all (fun c => isCode c || c.before args0 about1) = true := by decide +kernel
theorem w_tables : (allAtoms (Jvm.Cond.code x code maxLocals ret :: tables_1)).before args0 about1 = true := by
  rw [allAtoms_all]
  show words1.all (fun c => c.before args0 about1) = true
  refine all_split ?_ w_codes
  rw [← List.take_append_drop 24 words1, List.all_append, w_t1, ← List.take_append_drop 24 (words1.drop 24), List.all_append, w_t2, ← List.take_append_drop 24 ((words1.drop 24).drop 24), List.all_append, w_t3, ← List.take_append_drop 24 (((words1.drop 24).drop 24).drop 24), List.all_append, w_t4, ← List.take_append_drop 24 ((((words1.drop 24).drop 24).drop 24).drop 24), List.all_append, w_t5, ← List.take_append_drop 24 (((((words1.drop 24).drop 24).drop 24).drop 24).drop 24), List.all_append, w_t6, ← List.take_append_drop 24 ((((((words1.drop 24).drop 24).drop 24).drop 24).drop 24).drop 24), List.all_append, w_t7, ← List.take_append_drop 24 (((((((words1.drop 24).drop 24).drop 24).drop 24).drop 24).drop 24).drop 24), List.all_append, w_t8, ← List.take_append_drop 24 ((((((((words1.drop 24).drop 24).drop 24).drop 24).drop 24).drop 24).drop 24).drop 24), List.all_append, w_t9, ← List.take_append_drop 24 (((((((((words1.drop 24).drop 24).drop 24).drop 24).drop 24).drop 24).drop 24).drop 24).drop 24), List.all_append, w_t10, ← List.take_append_drop 24 ((((((((((words1.drop 24).drop 24).drop 24).drop 24).drop 24).drop 24).drop 24).drop 24).drop 24).drop 24), List.all_append, w_t11, ← List.take_append_drop 24 (((((((((((words1.drop 24).drop 24).drop 24).drop 24).drop 24).drop 24).drop 24).drop 24).drop 24).drop 24).drop 24), List.all_append, w_t12, ← List.take_append_drop 24 ((((((((((((words1.drop 24).drop 24).drop 24).drop 24).drop 24).drop 24).drop 24).drop 24).drop 24).drop 24).drop 24).drop 24), List.all_append, w_t13, w_t14]
  rfl
set_option maxRecDepth 65536 in
theorem w_rest : rest_1_c.before args0 about1 = true := by decide +kernel
set_option maxRecDepth 65536 in
theorem w_case : (Jvm.Cond.and given_1 narrow_1).before args0 about1 = true := by decide +kernel
set_option maxRecDepth 65536 in
theorem w_consts : constsHeld consts_1 about1 := Jvm.Lit.constsHeldB_iff.mp (by decide +kernel)
theorem w_applies : (headSpec (Jvm.Cond.code x code maxLocals ret :: tables_1) room_1).applies x e0.platform about1 = true :=
  (Spec.applies_iff w_frames).mpr ⟨w_running, w_runnable, w_alone, w_named, w_hears, w_ripe, w_room, w_tables⟩
theorem atStart : AtStart classFile x code maxLocals ret World_1 tables_1 room_1 Calls_1 rest_1 Pre_1 launch0 p0 e0 about1 theMethod args0 below0 :=
  ⟨lists_1, trivial, launch0.admits_env _ _ _, launch0.least_env, fairChoices_fair.cas, fairChoices_fair.clock, w_frames, w_args, w_heap, w_applies, ⟨(by decide +kernel : framesKnown about1 = true), ⟨(by decide +kernel : tablesKnown about1 = true), ⟨w_consts, trivial⟩⟩⟩, w_rest, w_case⟩
end start1
theorem witness_1 : WitnessClaimed_1 := ⟨start1.p0, start1.e0, start1.about1, start1.theMethod, start1.args0, start1.below0, start1.atStart⟩
end Jvm.Pilot.@@N@@
