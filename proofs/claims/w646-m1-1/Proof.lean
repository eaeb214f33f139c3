import JvmDerived
import JvmDerived.Pilot.@@N@@Statement
import JvmDerived.Pilot.@@N@@Code
set_option linter.unusedVariables false
set_option linter.unusedSimpArgs false
namespace Jvm.Pilot.@@N@@
open Jvm Jvm.ClassFile Sem Op Lib Jvm.Free Jvm.Stand Jvm.LawKit Jvm.RoadKit Bundle Jvm.Pilot.@@N@@.Jvm.D
section Own
variable {p : Program} {l : Launch} {e : Env} {R : Room} {s : State} {m : MethodId} {args : Array Value} {below : List Frame} {meth : Method} {c : Code} {T T' : State} {locs : List Loc} {cells slots : Nat} {G : Outcome → State → Prop} {g g' : JFrame} {Z : State} {h h' h0 : Heap} {a b : Addr} {n0 : Nat} {Q : Option Value → Heap → List Loc → Prop} {CC SS : Nat}
/-- the run from T, with the frame g on top, ends as G wants it -/
def Win (p : Program) (e : Env) (below : List Frame) (G : Outcome → State → Prop) (T : State) (g : JFrame) : Prop :=
  ∃ s₂ o, Steps p.tables e below (T.setTop g) s₂ ∧ s₂.status = .running ∧ Ended s₂ below o ∧ G o s₂
theorem Win.st (W : Win p e below G T' g') (st : ∀ t, Steps p.tables e below (T'.setTop g') t → Steps p.tables e below (T.setTop g) t) : Win p e below G T g := by
  obtain ⟨s2, o, h1, h2⟩ := W
  exact ⟨s2, o, st _ h1, h2⟩
theorem Win.tr (W : Win p e below G T' g') (st : Steps p.tables e below (T.setTop g) (T'.setTop g')) : Win p e below G T g := by
  obtain ⟨s2, o, h1, h2⟩ := W
  exact ⟨s2, o, st.trans h1, h2⟩
/-- how a body ends: it returned v, Q of the value and the heap, the frame -/
def Ends (s : State) (Q : Option Value → Heap → List Loc → Prop) (CC SS : Nat) (o : Outcome) (U : State) : Prop := ∃ v L, o = .returned v ∧ Q v U.heap L ∧ FrameEnd s o U L CC SS
theorem Win.ret (X : Stand p l e R s m args below meth c T locs cells slots) (hx : p.tables.exec = Jvm.exec) (hlk : meth.locks = false) (eT : T.heap = h) {pc : Nat} {Ls : Array Slot} {w : Value} {t : FieldType} {i : Instr} {rest : List Value} (hret : meth.sig.returnType = some t) (hn : narrow t w = w)
    (hi : (i = .ireturn ∧ (t = .int ∨ t = .boolean ∨ t = .byte ∨ t = .char ∨ t = .short) ∧ ∃ z, w = .int z) ∨ (i = .lreturn ∧ t = .long ∧ ∃ z, w = .long z) ∨ (i = .dreturn ∧ t = .double ∧ ∃ z, w = .double z) ∨ (i = .freturn ∧ t = .float ∧ ∃ z, w = .float z) ∨ (i = .areturn ∧ t.isReference = true ∧ w.isRef = true))
    (hd : decode c.code pc = .ok (i, 1)) (hc : cells ≤ CC) (hs : slots ≤ SS) (hQ : Q (some w) h locs) : Win p e below (Ends s Q CC SS) T (mkF m pc Ls (w :: rest)) := by
  obtain ⟨fs, hr, hrun, hended, hW, hsame⟩ := X.leave (v := some w) (fun h => by rw [hret] at h; cases h) hlk
  subst eT
  exact ⟨_, _, retOut X hx hret hn hi hd hr, hrun, hended, _, _, rfl, hQ, ⟨_, rfl⟩, hW, hsame.mono hc hs⟩
theorem Win.retN (X : Stand p l e R s m args below meth c T locs cells slots) (hx : p.tables.exec = Jvm.exec) (hlk : meth.locks = false) (eT : T.heap = h) {pc : Nat} {Ls : Array Slot} {z z' : Int32} {t : FieldType} {rest : List Value} (hret : meth.sig.returnType = some t) (ht : t = .boolean ∨ t = .byte ∨ t = .char ∨ t = .short)
    (hd : decode c.code pc = .ok (.ireturn, 1)) (hc : cells ≤ CC) (hs : slots ≤ SS) (hz : nar t z = z') (hQ : Q (some (.int z')) h locs) : Win p e below (Ends s Q CC SS) T (mkF m pc Ls (.int z :: rest)) := by
  subst hz
  obtain ⟨fs, hr, hrun, hended, hW, hsame⟩ := X.leave (v := some (.int (nar t z))) (fun h => by rw [hret] at h; cases h) hlk
  subst eT
  exact ⟨_, _, Jvm.RoadKit.retN X hx hret ht hd hr, hrun, hended, _, _, rfl, hQ, ⟨_, rfl⟩, hW, hsame.mono hc hs⟩
theorem Win.retV (X : Stand p l e R s m args below meth c T locs cells slots) (hx : p.tables.exec = Jvm.exec) (hlk : meth.locks = false) (eT : T.heap = h) {pc : Nat} {Ls : Array Slot} (hret : meth.sig.returnType = none)
    (hd : decode c.code pc = .ok (.return_, 1)) (hc : cells ≤ CC) (hs : slots ≤ SS) (hQ : Q none h locs) : Win p e below (Ends s Q CC SS) T (mkF m pc Ls []) := by
  obtain ⟨fs, hr, hrun, hended, hW, hsame⟩ := X.leave (v := none) (fun _ => rfl) hlk
  subst eT
  exact ⟨_, _, X.returnOut hx hret hd hr, hrun, hended, _, _, rfl, hQ, ⟨_, rfl⟩, hW, hsame.mono hc hs⟩
theorem own_hide {k : Nat} {sl : Nat} (X : Stand p l e R s m args below meth c T (locs ++ [⟨a, sl⟩]) cells slots) (N : Fr k locs) (q : k ≤ a) : ∃ L, Stand p l e R s m args below meth c T L cells slots ∧ Fr k L := ⟨_, X, Fr.snoc X N q⟩
theorem own_kext (E : Ext h h') : Keep h h' [] := (Keep.refl h []).ext E
theorem own_new {x : Addr} (g : b = h.size) (q : x < h.size) : x ≠ b := Nat.ne_of_lt (g ▸ q)
theorem own_newle (Z0 : n0 ≤ h.size) (g : b = h.size) : n0 ≤ b := g ▸ Z0
theorem own_len {k : ClassId} {ty : FieldType} {z : Int32} {vs : List Value} {dv : Value} (V : Arv Z h a k ty z vs dv) : ¬ z < 0 := by obtain ⟨_, _, _, _, q, _⟩ := V; exact q
theorem own_alen {k : ClassId} {ty : FieldType} {z : Int32} {vs : List Value} {dv : Value} (X : Stand p l e R s m args below meth c T locs cells slots) (hx : p.tables.exec = Jvm.exec) (hZ : Z.Warmed39 s.vm) (eT : T.heap = h) (V : Arv Z h a k ty z vs dv) {rest : List Value} (hg : g.method = m) (hs : g.stack = .ref a :: rest) (hd : decode c.code g.pc = .ok (.arraylength, 1)) :
    ∀ target, Steps p.tables e below (T.setTop { g with pc := g.pc + 1, stack := .int z :: rest }) target → Steps p.tables e below (T.setTop g) target := by
  obtain ⟨cl, A, -, S, q, -, -⟩ := V
  intro t k
  refine X.arraylength hx (by rw [eT]; exact A.1) (State.isArrayOf_alike hZ.alike A.2.1) hg hs hd _ ?_
  rw [len_of S q]; exact k
theorem own_iald {k : ClassId} {z : Int32} {vs : List Value} {dv : Value} (X : Stand p l e R s m args below meth c T locs cells slots) (hx : p.tables.exec = Jvm.exec) (hZ : Z.Warmed39 s.vm) (eT : T.heap = h) (V : Arv Z h a k .int z vs dv) {j : Int32} {v : Value} (h1 : ¬ j < 0) (h2 : j < z) (hv : vs.getD j.toNatClampNeg dv = v) {rest : List Value} (hg : g.method = m) (hs : g.stack = .int j :: .ref a :: rest) (hd : decode c.code g.pc = .ok (.iaload, 1)) :
    ∀ target, Steps p.tables e below (T.setTop { g with pc := g.pc + 1, stack := v :: rest }) target → Steps p.tables e below (T.setTop g) target := by
  obtain ⟨cl, A, -, S, q, H, -⟩ := V
  have hin := inb_of S ⟨h1, h2⟩
  exact X.iaload hx (by rw [eT]; exact A.1) (State.isArrayOf_alike hZ.alike A.2.1) A.2.2 hin (H.at hin hv) hg hs hd
theorem own_bald {k : ClassId} {z : Int32} {vs : List Value} {dv : Value} (X : Stand p l e R s m args below meth c T locs cells slots) (hx : p.tables.exec = Jvm.exec) (hZ : Z.Warmed39 s.vm) (eT : T.heap = h) (V : Arv Z h a k .byte z vs dv) {j : Int32} {v : Value} (h1 : ¬ j < 0) (h2 : j < z) (hv : vs.getD j.toNatClampNeg dv = v) {rest : List Value} (hg : g.method = m) (hs : g.stack = .int j :: .ref a :: rest) (hd : decode c.code g.pc = .ok (.baload, 1)) :
    ∀ target, Steps p.tables e below (T.setTop { g with pc := g.pc + 1, stack := v :: rest }) target → Steps p.tables e below (T.setTop g) target := by
  obtain ⟨cl, A, -, S, q, H, -⟩ := V
  have hin := inb_of S ⟨h1, h2⟩
  exact X.baloadBytes hx (by rw [eT]; exact A.1) (State.isArrayOf_alike hZ.alike A.2.1) A.2.2 hin (H.at hin hv) hg hs hd
theorem own_cald {k : ClassId} {z : Int32} {vs : List Value} {dv : Value} (X : Stand p l e R s m args below meth c T locs cells slots) (hx : p.tables.exec = Jvm.exec) (hZ : Z.Warmed39 s.vm) (eT : T.heap = h) (V : Arv Z h a k .char z vs dv) {j : Int32} {v : Value} (h1 : ¬ j < 0) (h2 : j < z) (hv : vs.getD j.toNatClampNeg dv = v) {rest : List Value} (hg : g.method = m) (hs : g.stack = .int j :: .ref a :: rest) (hd : decode c.code g.pc = .ok (.caload, 1)) :
    ∀ target, Steps p.tables e below (T.setTop { g with pc := g.pc + 1, stack := v :: rest }) target → Steps p.tables e below (T.setTop g) target := by
  obtain ⟨cl, A, -, S, q, H, -⟩ := V
  have hin := inb_of S ⟨h1, h2⟩
  exact X.caload hx (by rw [eT]; exact A.1) (State.isArrayOf_alike hZ.alike A.2.1) A.2.2 hin (H.at hin hv) hg hs hd
theorem own_cast {k : ClassId} {z : Int32} {vs : List Value} {dv : Value} (X : Stand p l e R s m args below meth c T locs cells slots) (hx : p.tables.exec = Jvm.exec) (hZ : Z.Warmed39 s.vm) (eT : T.heap = h) (N : Fr n0 locs) (ge : n0 ≤ a) (V : Arv Z h a k .char z vs dv) {j x : Int32} (h1 : ¬ j < 0) (h2 : j < z) {i : Nat} (hj : j.toNatClampNeg = i) (hi : i < vs.length) {rest : List Value} (hg : g.method = m) (hs : g.stack = .int x :: .int j :: .ref a :: rest) (hd : decode c.code g.pc = .ok (.castore, 1)) :
    ∃ T' h' L, Stand p l e R s m args below meth c T' L cells slots ∧ Fr n0 L ∧ T'.heap = h' ∧ Keep h h' [a] ∧ Arv Z h' a k .char z (vs.set i (.int (x.toUInt32.toUInt16.toUInt32.toInt32))) dv ∧ ∀ target, Steps p.tables e below (T'.setTop { g with pc := g.pc + 1, stack := rest }) target → Steps p.tables e below (T.setTop g) target := by
  obtain ⟨cl, A, q1, S, q, H, Gf⟩ := V
  have hin := inb_of S ⟨h1, h2⟩
  obtain ⟨T', h', X', e', W, st⟩ := stC X hx hZ eT A hin hg hs hd
  exact ⟨T', h', _, X', Fr.snoc X' N ge, e', Keep.of_wr W, Arv.set A q1 S q H Gf (fits_nar_char x) W i hj hi, st⟩
theorem own_iast {k : ClassId} {z : Int32} {vs : List Value} {dv : Value} (X : Stand p l e R s m args below meth c T locs cells slots) (hx : p.tables.exec = Jvm.exec) (hZ : Z.Warmed39 s.vm) (eT : T.heap = h) (N : Fr n0 locs) (ge : n0 ≤ a) (V : Arv Z h a k .int z vs dv) {j x : Int32} (h1 : ¬ j < 0) (h2 : j < z) {i : Nat} (hj : j.toNatClampNeg = i) (hi : i < vs.length) {rest : List Value} (hg : g.method = m) (hs : g.stack = .int x :: .int j :: .ref a :: rest) (hd : decode c.code g.pc = .ok (.iastore, 1)) :
    ∃ T' h' L, Stand p l e R s m args below meth c T' L cells slots ∧ Fr n0 L ∧ T'.heap = h' ∧ Keep h h' [a] ∧ Arv Z h' a k .int z (vs.set i (.int x)) dv ∧ ∀ target, Steps p.tables e below (T'.setTop { g with pc := g.pc + 1, stack := rest }) target → Steps p.tables e below (T.setTop g) target := by
  obtain ⟨cl, A, q1, S, q, H, Gf⟩ := V
  have hin := inb_of S ⟨h1, h2⟩
  obtain ⟨T', h', X', e', W, st⟩ := stI X hx hZ eT A hin hg hs hd
  exact ⟨T', h', _, X', Fr.snoc X' N ge, e', Keep.of_wr W, Arv.set A q1 S q H Gf rfl W i hj hi, st⟩
theorem own_bast {k : ClassId} {z : Int32} {vs : List Value} {dv : Value} (X : Stand p l e R s m args below meth c T locs cells slots) (hx : p.tables.exec = Jvm.exec) (hZ : Z.Warmed39 s.vm) (eT : T.heap = h) (N : Fr n0 locs) (ge : n0 ≤ a) (V : Arv Z h a k .byte z vs dv) {j x : Int32} (h1 : ¬ j < 0) (h2 : j < z) {i : Nat} (hj : j.toNatClampNeg = i) (hi : i < vs.length) {rest : List Value} (hg : g.method = m) (hs : g.stack = .int x :: .int j :: .ref a :: rest) (hd : decode c.code g.pc = .ok (.bastore, 1)) :
    ∃ T' h' L, Stand p l e R s m args below meth c T' L cells slots ∧ Fr n0 L ∧ T'.heap = h' ∧ Keep h h' [a] ∧ Arv Z h' a k .byte z (vs.set i (.int x.toInt8.toInt32)) dv ∧ ∀ target, Steps p.tables e below (T'.setTop { g with pc := g.pc + 1, stack := rest }) target → Steps p.tables e below (T.setTop g) target := by
  obtain ⟨cl, A, q1, S, q, H, Gf⟩ := V
  have hin := inb_of S ⟨h1, h2⟩
  obtain ⟨T', h', X', e', W, st⟩ := stB X hx hZ eT A hin hg hs hd
  exact ⟨T', h', _, X', Fr.snoc X' N ge, e', Keep.of_wr W, Arv.set A q1 S q H Gf (fits_nar_byte x) W i hj hi, st⟩
/-- how a body ends that may have interned a String -/
def EndsW (s : State) (Q : Option Value → Heap → List Loc → Prop) (CC SS : Nat) (o : Outcome) (U : State) : Prop := ∃ v L, o = .returned v ∧ Q v U.heap L ∧ ReturnedEndW s o U L CC SS
theorem Win.retNW {vm₁ : Vm} {k1 : Nat} (X : Stand p l e R (s.setVm vm₁) m args below meth c T locs cells slots) (hS : s.Since vm₁ k1) (hk : k1 ≤ h.size) (hx : p.tables.exec = Jvm.exec) (hlk : meth.locks = false) (eT : T.heap = h) {pc : Nat} {Ls : Array Slot} {z z' : Int32} {t : FieldType} {rest : List Value} (hret : meth.sig.returnType = some t) (ht : t = .boolean ∨ t = .byte ∨ t = .char ∨ t = .short)
    (hd : decode c.code pc = .ok (.ireturn, 1)) (hc : cells ≤ CC) (hs : slots ≤ SS) (hz : nar t z = z') (hQ : Q (some (.int z')) h locs) : Win p e below (EndsW s Q CC SS) T (mkF m pc Ls (.int z :: rest)) := by
  subst hz
  subst eT
  obtain ⟨fs, hr, hrun, hended, h1, h2, h3, h4⟩ := X.leaveW hS hk (v := some (.int (nar t z))) (fun h => by rw [hret] at h; cases h) hlk
  exact ⟨_, _, Jvm.RoadKit.retN X hx hret ht hd hr, hrun, hended, _, _, rfl, hQ, h1, h2, h3, h4.mono hc hs⟩
theorem Win.retVW {vm₁ : Vm} {k1 : Nat} (X : Stand p l e R (s.setVm vm₁) m args below meth c T locs cells slots) (hS : s.Since vm₁ k1) (hk : k1 ≤ h.size) (hx : p.tables.exec = Jvm.exec) (hlk : meth.locks = false) (eT : T.heap = h) {pc : Nat} {Ls : Array Slot} (hret : meth.sig.returnType = none)
    (hd : decode c.code pc = .ok (.return_, 1)) (hc : cells ≤ CC) (hs : slots ≤ SS) (hQ : Q none h locs) : Win p e below (EndsW s Q CC SS) T (mkF m pc Ls []) := by
  subst eT
  obtain ⟨fs, hr, hrun, hended, h1, h2, h3, h4⟩ := X.leaveW hS hk (v := none) (fun _ => rfl) hlk
  exact ⟨_, _, X.returnOut hx hret hd hr, hrun, hended, _, _, rfl, hQ, h1, h2, h3, h4.mono hc hs⟩
theorem Win.retRW {vm₁ : Vm} {k1 : Nat} (X : Stand p l e R (s.setVm vm₁) m args below meth c T locs cells slots) (hS : s.Since vm₁ k1) (hk : k1 ≤ h.size) (hx : p.tables.exec = Jvm.exec) (hlk : meth.locks = false) (eT : T.heap = h) {pc : Nat} {Ls : Array Slot} {w : Value} {t : FieldType} {rest : List Value} (hret : meth.sig.returnType = some t) (ht : t.isReference = true) (hw : w.isRef = true) (hn : narrow t w = w)
    (hd : decode c.code pc = .ok (.areturn, 1)) (hc : cells ≤ CC) (hs : slots ≤ SS) (hQ : Q (some w) h locs) : Win p e below (EndsW s Q CC SS) T (mkF m pc Ls (w :: rest)) := by
  subst eT
  obtain ⟨fs, hr, hrun, hended, h1, h2, h3, h4⟩ := X.leaveW hS hk (v := some w) (fun h => by rw [hret] at h; cases h) hlk
  exact ⟨_, _, retOut X hx hret hn (Or.inr (Or.inr (Or.inr (Or.inr ⟨rfl, ht, hw⟩)))) hd hr, hrun, hended, _, _, rfl, hQ, h1, h2, h3, h4.mono hc hs⟩
/-- RoadKit's backOfSH for a callee that asks the invariant and doesn't give it back -/
theorem own_backOfSP {a0 : Array Value} {EL : List (String × Nat)} {vm0 : Vm} {y : MethodName} {bytes : ByteArray} {maxL : Nat} {ret : Option FieldType} {rm : Room} {len W : Nat} {as' : Array Value} {Q : Option Value → Heap → List Loc → Prop}
    (hM : MetFree l y (head1 [Jvm.Cond.code y bytes maxL ret] rm) (fun a U => a = as' ∧ Z.Warmed39 U.vm ∧ U.heap = h ∧ CHv Z EL U.vm h) (fun _ _ _ _ _ => True) (fun _ U o U' => ∃ v L, o = .returned v ∧ Q v U'.heap L ∧ ReturnedEndW U o U' L rm.cells rm.slots))
    (hZ : Z.Warmed39 vm0) (wc : (Jvm.Cond.code y bytes maxL ret).before a0 Z = true) (wz : (Jvm.Cond.initialized y.cls).before a0 Z = true) (hf : rm.frames + 1 ≤ R.frames) (hl : W + (maxL + 11) + rm.locals ≤ R.locals) (hEL : EW Z a0 EL) (H : CHv Z EL vm0 h) :
    BackS l R p e below (s.setVm vm0) args y len W (fun A a => a = as' ∧ A.U.heap = h ∧ A.cells + rm.cells ≤ R.cells ∧ A.slots + rm.slots ≤ R.slots)
      (fun A _ v B => ∃ L, Q v B.U.heap L ∧ B.locs = A.locs ++ L ∧ B.cells = A.cells + rm.cells ∧ B.slots = A.slots + rm.slots) :=
  BackS.of_freeW (bytes := bytes) (maxL := maxL) (ret := ret) (E := fun _ _ o t L k n => k = rm.cells ∧ n = rm.slots ∧ ∃ v, o = .returned v ∧ Q v t.heap L) hM hf hl
    (fun m meth c A a Y hp => have hU : Z.Warmed39 A.U.vm := wtrans (s := s.setVm vm0) hZ Y.warmed
      ⟨by show (Jvm.Cond.and _ .tt).before a A.U = true; rw [Cond.before_and, mv hU wc]; rfl, mv hU wc, mv hU wz, hp.2.2.1, hp.2.2.2⟩)
    (fun m meth c A a g mk Y hp => ⟨hp.1, wtrans (s := s.setVm vm0) hZ Y.warmed, hp.2.1, (CHv.at Y hZ hEL H).1⟩) (fun _ _ _ _ _ _ _ _ _ => trivial)
    (fun _ _ _ _ ⟨v, L, h1, h2, h3⟩ => ⟨L, _, _, h3, rfl, rfl, v, h1, h2⟩)
    (fun m meth c A a g mk v t L k n Y hp _ _ ⟨e1, e2, v', e3, e4⟩ => by cases e3; subst e1 e2; exact ⟨L, e4, rfl, rfl, rfl⟩)
theorem own_sta_keep {C n d : String} {v : Value} (F : Sta Z h C n d v) (K : Keep h h' []) : Sta Z h' C n d v := by
  obtain ⟨cf, i, k, f, st, cell, h1, h2, h3, h4, h5, r⟩ := F
  exact ⟨cf, i, k, f, st, cell, h1, h2, h3, h4, K.2.1 _ _ h5 nin0, r⟩
theorem own_nar_ref {u : Value} {C : String} (hu : u.isRef = true) : narrow (.object C) u = u := by rcases ref_cases hu with rfl | ⟨z, rfl⟩ <;> rfl
theorem own_fit_ref {u : Value} {C : String} (hu : u.isRef = true) : fits (.object C) u = true := by rcases ref_cases hu with rfl | ⟨z, rfl⟩ <;> rfl
theorem own_no {a0 : Array Value} {C K O : String} {n : Nat} (w : (Jvm.Cond.superclass C O).before a0 Z = true) (wo : (Jvm.Cond.noSuperclass O).before a0 Z = true) (wk : (Jvm.Cond.instantiable K n).before a0 Z = true) (h1 : C ≠ K) (h2 : O ≠ K) : ∃ c t, Z.vm.findClass C = some c ∧ Z.vm.findClass K = some t ∧ Z.vm.assignable c t = false := by
  obtain ⟨o, ko, o1, o2, o3, -, -⟩ := Cond.noSuperclass_spec wo
  obtain ⟨t, kt, t1, t2, t3, t4, -⟩ := Cond.instantiable_spec wk
  obtain ⟨c, c0⟩ := found_sup w
  obtain ⟨p, k, kp, p1, p2, p3, p4, p5, -, p7⟩ := Cond.superclass_spec c0 w
  cases o1.symm.trans p1
  have ne1 := ids_ne c0 t1 h1
  have ne2 := ids_ne o1 t1 h2
  simp only [Bool.or_eq_false_iff] at t4
  have n3 : ∀ fuel, Z.vm.isSubclassAux fuel c t = false := fun fuel => by
    match fuel with
    | 0 => rfl
    | 1 => simp [Vm.isSubclassAux, ne1, p2, p4]
    | f + 2 => simp [Vm.isSubclassAux, ne1, ne2, p2, p4, o2, o3]
  refine ⟨c, t, c0, t1, ?_⟩
  show Z.vm.assignableAux (255 + 1) c t = false
  simp [Vm.assignableAux, ne1, p2, t2, p5, t3, t4.1, Vm.isSubclass, n3]
theorem own_selp {y : MethodName} {n : Nat} (hi : (Jvm.Cond.instantiable y.cls n).before args s = true) (hp : s.PrivateAt y) (hm : (Jvm.Cond.instanceMethod y).before args s = true) (hy : y.cls ≠ "java/lang/invoke/MethodHandle" ∧ y.cls ≠ "java/lang/invoke/VarHandle") : (Jvm.Cond.selects y.cls y y).before args s = true := by
  obtain ⟨c, k, h1, h2, h3, h4, -⟩ := Cond.instantiable_spec hi
  exact selects_self_of_private h1 h2 (by simp only [Bool.or_eq_false_iff] at h4; exact h4.1) hp hm hy
end Own

theorem own_and3 (x : Int32) : x &&& 3 = 0 ∨ x &&& 3 = 1 ∨ x &&& 3 = 2 ∨ x &&& 3 = 3 := by
  have q := c_mask x 3 2 (by decide) (by decide)
  have r : (x &&& 3).toInt = 0 ∨ (x &&& 3).toInt = 1 ∨ (x &&& 3).toInt = 2 ∨ (x &&& 3).toInt = 3 := by omega
  rcases r with r | r | r | r
  · exact Or.inl (Int32.toInt_inj.mp (r.trans (by decide)))
  · exact Or.inr (Or.inl (Int32.toInt_inj.mp (r.trans (by decide))))
  · exact Or.inr (Or.inr (Or.inl (Int32.toInt_inj.mp (r.trans (by decide)))))
  · exact Or.inr (Or.inr (Or.inr (Int32.toInt_inj.mp (r.trans (by decide)))))
/-- what Math.max picks of two longs -/
def own_maxL (x y : Int64) : Int64 := if lcmpW x y < 0 then y else x
/-- the average as Tally reckons it -/
def own_avg (c n : Int64) : Int64 := if lcmpW c 0 = 0 then 0 else n / c
theorem own_div1 (x : Int64) : x / 1 = x := Int64.toInt_inj.mp (by rw [Int64.toInt_div_of_ne_right x 1 (by decide)]; exact Int.tdiv_one _)
theorem own_avg1 (x : Int64) : own_avg (0 + 1) (0 + x) = x := by
  unfold own_avg
  rw [if_neg (by decide), Int64.zero_add]
  exact own_div1 x
theorem own_avgd (c n d : Int64) (h : ¬ lcmpW c 0 = 0) (e : c = d) : own_avg c n = n / d := by
  unfold own_avg
  rw [if_neg h, e]
theorem own_max0 {a : Int64} (h : 0 ≤ a.toInt) : own_maxL 0 a = a := by
  unfold own_maxL
  split
  · rfl
  · rename_i q
    rw [lw_lt, Int64.lt_iff_toInt_lt] at q
    have z : (0 : Int64).toInt = 0 := by decide
    exact Int64.toInt_inj.mp (by omega)
theorem own_maxY {a b : Int64} (h : (0 : Int32) < lcmpW b a) : own_maxL a b = b := by
  unfold own_maxL
  rw [if_pos ((lw_lt _ _).mpr ((lw_gt _ _).mp h))]
theorem own_maxN {a b : Int64} (h : ¬ (0 : Int32) < lcmpW b a) : own_maxL a b = a := by
  unfold own_maxL
  rw [if_neg (fun q => h ((lw_gt _ _).mpr ((lw_lt _ _).mp q)))]

theorem d_jdk_29_method_66_0 : decode jdk_29_method_66_code 0 = .ok (.lload_n 0, 1) := by decide +kernel
theorem d_jdk_29_method_66_1 : decode jdk_29_method_66_code 1 = .ok (.lload_n 2, 1) := by decide +kernel
theorem d_jdk_29_method_66_2 : decode jdk_29_method_66_code 2 = .ok (.lcmp, 1) := by decide +kernel
theorem d_jdk_29_method_66_3 : decode jdk_29_method_66_code 3 = .ok (.ifCond .lt 7, 3) := by decide +kernel
theorem d_jdk_29_method_66_10 : decode jdk_29_method_66_code 10 = .ok (.lload_n 2, 1) := by decide +kernel
theorem d_jdk_29_method_66_11 : decode jdk_29_method_66_code 11 = .ok (.lreturn, 1) := by decide +kernel
theorem d_jdk_29_method_66_6 : decode jdk_29_method_66_code 6 = .ok (.lload_n 0, 1) := by decide +kernel
theorem d_jdk_29_method_66_7 : decode jdk_29_method_66_code 7 = .ok (.goto 4, 3) := by decide +kernel
theorem ef_maxj (mt : MethodId) (x : Int64) (y : Int64) : entryFrame mt #[(.long x), (.long y)] 4 = mkF mt 0 #[.val (.long x), .second, .val (.long y), .second] [] := by first | (simp [entryFrame, mkF, argsToLocals, Value.category]; done) | rfl
def Q_maxj (Z : State) (x : Int64) (y : Int64) (h0 : Heap) (n0 : Nat) (v : Option Value) (h : Heap) (L : List Loc) : Prop := v = some (.long (own_maxL x y)) ∧ Fr n0 L ∧ h = h0
set_option maxRecDepth 65536 in
set_option maxHeartbeats 40000000 in
theorem rm_maxj (l : Launch) (Z : State) (a0 : Array Value) (hw : ∀ d ∈ tables_1, d.before a0 Z = true) (ws : List Jvm.Cond) (x : Int64) (y : Int64) (h0 : Heap) (n0 : Nat) (Z0 : n0 ≤ h0.size) :
    MetFree l (⟨"java/lang/Math", "max", "(JJ)J"⟩ : MethodName) (head1 (Jvm.Cond.code (⟨"java/lang/Math", "max", "(JJ)J"⟩ : MethodName) jdk_29_method_66_code 4 (some .long) :: ws) ({ frames := 0, cells := 0, slots := 0, locals := 0 } : Room)) (fun aa UU => aa = #[(.long x), (.long y)] ∧ Z.Warmed39 UU.vm ∧ UU.heap = h0) (fun _ _ _ _ _ => True) (fun _ UU oo UU' => ∃ vv LL, oo = .returned vv ∧ Q_maxj Z x y h0 n0 vv UU'.heap LL ∧ FrameEnd UU oo UU' LL ({ frames := 0, cells := 0, slots := 0, locals := 0 } : Room).cells ({ frames := 0, cells := 0, slots := 0, locals := 0 } : Room).slots) := by
  refine MetFree.of_bodySF (Jvm.Free.JP.mathPlain rfl (by decide +kernel)) hisR ?_
  intro p e s mt args below meth cd s₁ Bd hml0 hP hK
  obtain ⟨hA, hZ, hh⟩ := hP
  have hx := Bd.exec
  have hby := Bd.bytes
  have hml : cd.maxLocals = 4 := hml0
  have hown : s.vm.findClass "java/lang/Math" = some mt.cls := findClass_of_methodNamed Bd.named
  have hnm := (name_of_methodNamed Bd.named Bd.method).1
  have hlk : meth.locks = false := BodyLoose.notSynchronized Bd
  have hrt := Bd.returns
  have X0 : Stand p l e ({ frames := 0, cells := 0, slots := 0, locals := 0 } : Room) s mt args below meth cd s₁ [] 0 0 := Stand.of_body Bd
  have e0 : s₁.heap = h0 := by rw [← hh, Bd.state]; rfl
  have N0 := Fr.nil n0
  show Win p e below (Ends s (Q_maxj Z x y h0 n0) ({ frames := 0, cells := 0, slots := 0, locals := 0 } : Room).cells ({ frames := 0, cells := 0, slots := 0, locals := 0 } : Room).slots) s₁ (entryFrame mt args 4)
  rw [hA, ef_maxj]
  refine Win.st ?_ (fun tq kq => XS.lloadN X0.here hx rfl (hb hby d_jdk_29_method_66_0) rfl kq)
  show Win p e below _ s₁ (mkF mt 1 #[.val (.long x), .second, .val (.long y), .second] [(.long x)])
  refine Win.st ?_ (fun tq kq => XS.lloadN X0.here hx rfl (hb hby d_jdk_29_method_66_1) rfl kq)
  show Win p e below _ s₁ (mkF mt 2 #[.val (.long x), .second, .val (.long y), .second] [(.long y), (.long x)])
  refine Win.st ?_ (fun tq kq => XS.lcmp X0.here hx rfl (hb hby d_jdk_29_method_66_2) rfl kq)
  show Win p e below _ s₁ (mkF mt 3 #[.val (.long x), .second, .val (.long y), .second] [(.int (lcmpW x y))])
  by_cases hc : (lcmpW x y) < (0 : Int32)
  · refine Win.st ?_ (fun tq kq => XS.ifYes X0.here hx rfl (pc0 := 3) (pc' := 10) rfl (hb hby d_jdk_29_method_66_3) rfl ((if0 _ _).trans (tlt hc).1) (by decide) (by decide) kq)
    show Win p e below _ s₁ (mkF mt 10 #[.val (.long x), .second, .val (.long y), .second] [])
    refine Win.st ?_ (fun tq kq => XS.lloadN X0.here hx rfl (hb hby d_jdk_29_method_66_10) rfl kq)
    show Win p e below _ s₁ (mkF mt 11 #[.val (.long x), .second, .val (.long y), .second] [(.long y)])
    exact Win.ret X0 hx hlk e0 hrt rfl (Or.inr (Or.inl ⟨rfl, rfl, _, rfl⟩)) (hb hby d_jdk_29_method_66_11) (by decide) (by decide) ⟨by simp only [own_maxL, hc, if_true, if_false], N0, rfl⟩
  · refine Win.st ?_ (fun tq kq => XS.ifNo X0.here hx rfl (hb hby d_jdk_29_method_66_3) rfl ((if0 _ _).trans (flt hc).1) kq)
    show Win p e below _ s₁ (mkF mt 6 #[.val (.long x), .second, .val (.long y), .second] [])
    refine Win.st ?_ (fun tq kq => XS.lloadN X0.here hx rfl (hb hby d_jdk_29_method_66_6) rfl kq)
    show Win p e below _ s₁ (mkF mt 7 #[.val (.long x), .second, .val (.long y), .second] [(.long x)])
    refine Win.st ?_ (fun tq kq => XS.goto X0.here hx rfl (pc0 := 7) (pc' := 11) rfl (hb hby d_jdk_29_method_66_7) (by decide) (by decide) kq)
    show Win p e below _ s₁ (mkF mt 11 #[.val (.long x), .second, .val (.long y), .second] [(.long x)])
    exact Win.ret X0 hx hlk e0 hrt rfl (Or.inr (Or.inl ⟨rfl, rfl, _, rfl⟩)) (hb hby d_jdk_29_method_66_11) (by decide) (by decide) ⟨by simp only [own_maxL, hc, if_true, if_false], N0, rfl⟩
theorem d_jdk_71_method_1_0 : decode jdk_71_method_1_code 0 = .ok (.aload_n 0, 1) := by decide +kernel
theorem d_jdk_71_method_1_1 : decode jdk_71_method_1_code 1 = .ok (.invokespecial 1, 3) := by decide +kernel
theorem d_jdk_71_method_1_4 : decode jdk_71_method_1_code 4 = .ok (.return_, 1) := by decide +kernel
theorem pn_0 : plainName "java/util/AbstractMap" = true := by first | (simp [plainName, overriddenIn]; done) | decide +kernel
theorem ef_am (mt : MethodId) (a : Addr) : entryFrame mt #[(.ref a)] 1 = mkF mt 0 #[.val (.ref a)] [] := by first | (simp [entryFrame, mkF, argsToLocals, Value.category]; done) | rfl
def Q_am (Z : State) (a : Addr) (h0 : Heap) (n0 : Nat) (v : Option Value) (h : Heap) (L : List Loc) : Prop := v = none ∧ Fr n0 L ∧ h = h0
set_option maxRecDepth 65536 in
set_option maxHeartbeats 40000000 in
theorem rm_am (l : Launch) (Z : State) (a0 : Array Value) (hw : ∀ d ∈ tables_1, d.before a0 Z = true) (ws : List Jvm.Cond) (a : Addr) (h0 : Heap) (n0 : Nat) (Z0 : n0 ≤ h0.size) :
    MetFree l (⟨"java/util/AbstractMap", "<init>", "()V"⟩ : MethodName) (head1 (Jvm.Cond.code (⟨"java/util/AbstractMap", "<init>", "()V"⟩ : MethodName) jdk_71_method_1_code 1 none :: ws) ({ frames := 1, cells := 0, slots := 0, locals := 12 } : Room)) (fun aa UU => aa = #[(.ref a)] ∧ Z.Warmed39 UU.vm ∧ UU.heap = h0) (fun _ _ _ _ _ => True) (fun _ UU oo UU' => ∃ vv LL, oo = .returned vv ∧ Q_am Z a h0 n0 vv UU'.heap LL ∧ FrameEnd UU oo UU' LL ({ frames := 1, cells := 0, slots := 0, locals := 12 } : Room).cells ({ frames := 1, cells := 0, slots := 0, locals := 12 } : Room).slots) := by
  refine MetFree.of_bodySF (plainFor_of_name pn_0) hisR ?_
  intro p e s mt args below meth cd s₁ Bd hml0 hP hK
  obtain ⟨hA, hZ, hh⟩ := hP
  have hx := Bd.exec
  have hby := Bd.bytes
  have hml : cd.maxLocals = 1 := hml0
  have hown : s.vm.findClass "java/util/AbstractMap" = some mt.cls := findClass_of_methodNamed Bd.named
  have hnm := (name_of_methodNamed Bd.named Bd.method).1
  have hlk : meth.locks = false := BodyLoose.notSynchronized Bd
  have hrt := Bd.returns
  have X0 : Stand p l e ({ frames := 1, cells := 0, slots := 0, locals := 12 } : Room) s mt args below meth cd s₁ [] 0 0 := Stand.of_body Bd
  have e0 : s₁.heap = h0 := by rw [← hh, Bd.state]; rfl
  have N0 := Fr.nil n0
  show Win p e below (Ends s (Q_am Z a h0 n0) ({ frames := 1, cells := 0, slots := 0, locals := 12 } : Room).cells ({ frames := 1, cells := 0, slots := 0, locals := 12 } : Room).slots) s₁ (entryFrame mt args 1)
  rw [hA, ef_am]
  refine Win.st ?_ (fun tq kq => XS.aloadN X0.here hx rfl (hb hby d_jdk_71_method_1_0) rfl rfl kq)
  show Win p e below _ s₁ (mkF mt 1 #[.val (.ref a)] [(.ref a)])
  obtain ⟨T11, X11, e11, st11⟩ := initO X0 hx hZ hown (hw _ (List.mem_of_getElem? (i := 21) rfl)) (hw _ (List.mem_of_getElem? (i := 7) rfl)) (hw _ (List.mem_of_getElem? (i := 8) rfl)) e0 (g := (mkF mt 1 #[.val (.ref a)] [(.ref a)])) rfl (by rw [hml]; rfl) rfl (hb hby d_jdk_71_method_1_1) (by decide) (W := 0) (by show 2 * 0 + _ ≤ _; exact Nat.le_of_eq rfl) (by decide)
  refine Win.st ?_ st11
  show Win p e below _ T11 (mkF mt 4 #[.val (.ref a)] [])
  exact Win.retV X11 hx hlk e11 hrt (hb hby d_jdk_71_method_1_4) (by decide) (by decide) ⟨rfl, N0, rfl⟩
theorem d_jdk_69_method_7_0 : decode jdk_69_method_7_code 0 = .ok (.aload_n 0, 1) := by decide +kernel
theorem d_jdk_69_method_7_1 : decode jdk_69_method_7_code 1 = .ok (.invokespecial 43, 3) := by decide +kernel
theorem pd_0 : parseMethodDescriptor "()V" = some ⟨[], none⟩ := by decide +kernel
theorem d_jdk_69_method_7_4 : decode jdk_69_method_7_code 4 = .ok (.aload_n 0, 1) := by decide +kernel
theorem d_jdk_69_method_7_5 : decode jdk_69_method_7_code 5 = .ok (.ldc 92, 2) := by decide +kernel
theorem d_jdk_69_method_7_7 : decode jdk_69_method_7_code 7 = .ok (.putfield 81, 3) := by decide +kernel
theorem d_jdk_69_method_7_10 : decode jdk_69_method_7_code 10 = .ok (.return_, 1) := by decide +kernel
theorem pn_1 : plainName "java/util/HashMap" = true := by first | (simp [plainName, overriddenIn]; done) | decide +kernel
theorem ef_hm (mt : MethodId) (a : Addr) : entryFrame mt #[(.ref a)] 1 = mkF mt 0 #[.val (.ref a)] [] := by first | (simp [entryFrame, mkF, argsToLocals, Value.category]; done) | rfl
def Q_hm (Z : State) (a : Addr) (u : Value) (h0 : Heap) (n0 : Nat) (v : Option Value) (h : Heap) (L : List Loc) : Prop := v = none ∧ Fr n0 L ∧ Keep h0 h [a]
set_option maxRecDepth 65536 in
set_option maxHeartbeats 40000000 in
theorem rm_hm (l : Launch) (Z : State) (a0 : Array Value) (hw : ∀ d ∈ tables_1, d.before a0 Z = true) (ws : List Jvm.Cond) (a : Addr) (u : Value) (h0 : Heap) (n0 : Nat) (Z0 : n0 ≤ h0.size) (E : Exa Z h0 a "java/util/HashMap") (F1 : Fld Z h0 a "java/util/HashMap" "loadFactor" "F" u) (ga : n0 ≤ a) :
    MetFree l (⟨"java/util/HashMap", "<init>", "()V"⟩ : MethodName) (head1 (Jvm.Cond.code (⟨"java/util/HashMap", "<init>", "()V"⟩ : MethodName) jdk_69_method_7_code 1 none :: ws) ({ frames := 2, cells := 0, slots := 0, locals := 24 } : Room)) (fun aa UU => aa = #[(.ref a)] ∧ Z.Warmed39 UU.vm ∧ UU.heap = h0) (fun _ _ _ _ _ => True) (fun _ UU oo UU' => ∃ vv LL, oo = .returned vv ∧ Q_hm Z a u h0 n0 vv UU'.heap LL ∧ FrameEnd UU oo UU' LL ({ frames := 2, cells := 0, slots := 0, locals := 24 } : Room).cells ({ frames := 2, cells := 0, slots := 0, locals := 24 } : Room).slots) := by
  refine MetFree.of_bodySF (plainFor_of_name pn_1) hisR ?_
  intro p e s mt args below meth cd s₁ Bd hml0 hP hK
  obtain ⟨hA, hZ, hh⟩ := hP
  have hx := Bd.exec
  have hby := Bd.bytes
  have hml : cd.maxLocals = 1 := hml0
  have hown : s.vm.findClass "java/util/HashMap" = some mt.cls := findClass_of_methodNamed Bd.named
  have hnm := (name_of_methodNamed Bd.named Bd.method).1
  have hlk : meth.locks = false := BodyLoose.notSynchronized Bd
  have hrt := Bd.returns
  have X0 : Stand p l e ({ frames := 2, cells := 0, slots := 0, locals := 24 } : Room) s mt args below meth cd s₁ [] 0 0 := Stand.of_body Bd
  have e0 : s₁.heap = h0 := by rw [← hh, Bd.state]; rfl
  have N0 := Fr.nil n0
  show Win p e below (Ends s (Q_hm Z a u h0 n0) ({ frames := 2, cells := 0, slots := 0, locals := 24 } : Room).cells ({ frames := 2, cells := 0, slots := 0, locals := 24 } : Room).slots) s₁ (entryFrame mt args 1)
  rw [hA, ef_hm]
  refine Win.st ?_ (fun tq kq => XS.aloadN X0.here hx rfl (hb hby d_jdk_69_method_7_0) rfl rfl kq)
  show Win p e below _ s₁ (mkF mt 1 #[.val (.ref a)] [(.ref a)])
  obtain ⟨v12, _, ⟨T12, L12, k12, n12⟩, -, X12, ⟨Lc12, hQ12, l12, y12, z12⟩, st12⟩ := X0.specialBack hx (y := (⟨"java/util/AbstractMap", "<init>", "()V"⟩ : MethodName)) rfl hown (mvT hZ (hw _ (List.mem_of_getElem? (i := 15) rfl))) (mvT hZ (hw _ (List.mem_of_getElem? (i := 16) rfl))) (mvT hZ (hw _ (List.mem_of_getElem? (i := 20) rfl))) (by decide) (backOf (W := 0) (rm_am l Z a0 hw [] a h0 n0 Z0 ) hZ (hw _ (List.mem_of_getElem? (i := 20) rfl)) (hw _ (List.mem_of_getElem? (i := 19) rfl)) (by decide) (by decide)) (g := (mkF mt 1 #[.val (.ref a)] [(.ref a)])) rfl (by rw [hml]; rfl) (Steps.refl _) (a := a) (argsL := []) (rest := []) (lenOf pd_0 rfl) rfl (by show 2 * 0 + _ ≤ _; exact Nat.le_of_eq rfl) (hb hby d_jdk_69_method_7_1) (fun _ _ => ⟨rfl, e0, (by decide : 0 + 0 ≤ _), (by decide : 0 + 0 ≤ _)⟩)
  dsimp only [Pt.U, Pt.locs, Pt.cells, Pt.slots] at X12 l12 y12 z12 st12 hQ12
  subst y12 z12
  replace X12 : Stand p l e _ s mt args below meth cd T12 L12 0 0 := X12
  obtain ⟨h12, e12⟩ : ∃ z, T12.heap = z := ⟨_, rfl⟩
  rw [e12] at hQ12
  obtain ⟨rfl, Nq12, eh12⟩ := hQ12
  have N12 : Fr n0 L12 := by rw [l12]; exact Fr.app N0 Nq12
  rw [eh12] at e12
  refine Win.tr ?_ st12
  show Win p e below _ T12 (mkF mt 4 #[.val (.ref a)] [])
  refine Win.st ?_ (fun tq kq => XS.aloadN X12.here hx rfl (hb hby d_jdk_69_method_7_4) rfl rfl kq)
  show Win p e below _ T12 (mkF mt 5 #[.val (.ref a)] [(.ref a)])
  refine Win.st ?_ (X12.ldcFloatC hx hown (mvT hZ (hw _ (List.mem_of_getElem? (i := 22) rfl))) (g := (mkF mt 5 #[.val (.ref a)] [(.ref a)])) rfl (hb hby d_jdk_69_method_7_5))
  show Win p e below _ T12 (mkF mt 7 #[.val (.ref a)] [(.float (1061158912 : UInt32)), (.ref a)])
  obtain ⟨T13, h13, X13, e13, W13, st13⟩ := putF X12 hx hZ hown (host := "") (Or.inl (hw _ (List.mem_of_getElem? (i := 23) rfl))) Via.refl e12 F1 E (Or.inr ⟨(hw _ (List.mem_of_getElem? (i := 24) rfl)), rfl, hnm⟩) (hw _ (List.mem_of_getElem? (i := 10) rfl)) (ty := .float) (by decide) rfl rfl (g := (mkF mt 7 #[.val (.ref a)] [(.float (1061158912 : UInt32)), (.ref a)])) rfl rfl (hb hby d_jdk_69_method_7_7)
  obtain ⟨L13, X13, N13⟩ := own_hide X13 N12 ga
  have kp13 := Keep.of_wr W13
  have fw13 := F1.same W13
  have f14_21 := E.keep kp13
  have Z15 : n0 ≤ h13.size := Nat.le_trans Z0 kp13.1
  have K16 : Keep h0 h13 [a] := Keep.trans (Keep.refl h0 [a]) kp13 (allS (Or.inl (List.mem_of_getElem? (i := 0) rfl)) all0)
  refine Win.st ?_ st13
  show Win p e below _ T13 (mkF mt 10 #[.val (.ref a)] [])
  exact Win.retV X13 hx hlk e13 hrt (hb hby d_jdk_69_method_7_10) (by decide) (by decide) ⟨rfl, N13, K16⟩
theorem d_prog_84_method_1_0 : decode prog_84_method_1_code 0 = .ok (.aload_n 0, 1) := by decide +kernel
theorem d_prog_84_method_1_1 : decode prog_84_method_1_code 1 = .ok (.invokespecial 1, 3) := by decide +kernel
theorem d_prog_84_method_1_4 : decode prog_84_method_1_code 4 = .ok (.aload_n 0, 1) := by decide +kernel
theorem d_prog_84_method_1_5 : decode prog_84_method_1_code 5 = .ok (.new 7, 3) := by decide +kernel
theorem d_prog_84_method_1_8 : decode prog_84_method_1_code 8 = .ok (.dup, 1) := by decide +kernel
theorem d_prog_84_method_1_9 : decode prog_84_method_1_code 9 = .ok (.invokespecial 9, 3) := by decide +kernel
theorem d_prog_84_method_1_12 : decode prog_84_method_1_code 12 = .ok (.putfield 10, 3) := by decide +kernel
theorem d_prog_84_method_1_15 : decode prog_84_method_1_code 15 = .ok (.return_, 1) := by decide +kernel
theorem pn_2 : plainName "com/example/interleave/interleave/Tally" = true := by first | (simp [plainName, overriddenIn]; done) | decide +kernel
theorem ef_tinit (mt : MethodId) (a : Addr) : entryFrame mt #[(.ref a)] 1 = mkF mt 0 #[.val (.ref a)] [] := by first | (simp [entryFrame, mkF, argsToLocals, Value.category]; done) | rfl
def Q_tinit (Z : State) (a : Addr) (st : Int64) (cm : Int64) (nn : Int64) (lo : Int64) (re : Int64) (fa : Int64) (h0 : Heap) (n0 : Nat) (v : Option Value) (h : Heap) (L : List Loc) : Prop := v = none ∧ Fr n0 L ∧ Keep h0 h [a] ∧ Fld Z h a "com/example/interleave/interleave/Tally" "started" "J" (.long st) ∧ Fld Z h a "com/example/interleave/interleave/Tally" "committed" "J" (.long cm) ∧ Fld Z h a "com/example/interleave/interleave/Tally" "committedNanos" "J" (.long nn) ∧ Fld Z h a "com/example/interleave/interleave/Tally" "longestNanos" "J" (.long lo) ∧ Fld Z h a "com/example/interleave/interleave/Tally" "retried" "J" (.long re) ∧ Fld Z h a "com/example/interleave/interleave/Tally" "failed" "J" (.long fa)
set_option maxRecDepth 65536 in
set_option maxHeartbeats 40000000 in
theorem rm_tinit (l : Launch) (Z : State) (a0 : Array Value) (hw : ∀ d ∈ tables_1, d.before a0 Z = true) (ws : List Jvm.Cond) (a : Addr) (st : Int64) (cm : Int64) (nn : Int64) (lo : Int64) (re : Int64) (fa : Int64) (h0 : Heap) (n0 : Nat) (Z0 : n0 ≤ h0.size) (E : Exa Z h0 a "com/example/interleave/interleave/Tally") (F_st : Fld Z h0 a "com/example/interleave/interleave/Tally" "started" "J" (.long st)) (F_cm : Fld Z h0 a "com/example/interleave/interleave/Tally" "committed" "J" (.long cm)) (F_nn : Fld Z h0 a "com/example/interleave/interleave/Tally" "committedNanos" "J" (.long nn)) (F_lo : Fld Z h0 a "com/example/interleave/interleave/Tally" "longestNanos" "J" (.long lo)) (F_re : Fld Z h0 a "com/example/interleave/interleave/Tally" "retried" "J" (.long re)) (F_fa : Fld Z h0 a "com/example/interleave/interleave/Tally" "failed" "J" (.long fa)) (ga : n0 ≤ a) (F_m : Fld Z h0 a "com/example/interleave/interleave/Tally" "failures" "Ljava/util/Map;" .null) :
    MetFree l (⟨"com/example/interleave/interleave/Tally", "<init>", "()V"⟩ : MethodName) (head1 (Jvm.Cond.code (⟨"com/example/interleave/interleave/Tally", "<init>", "()V"⟩ : MethodName) prog_84_method_1_code 1 none :: ws) ({ frames := 3, cells := 1, slots := 8, locals := 38 } : Room)) (fun aa UU => aa = #[(.ref a)] ∧ Z.Warmed39 UU.vm ∧ UU.heap = h0) (fun _ _ _ _ _ => True) (fun _ UU oo UU' => ∃ vv LL, oo = .returned vv ∧ Q_tinit Z a st cm nn lo re fa h0 n0 vv UU'.heap LL ∧ FrameEnd UU oo UU' LL ({ frames := 3, cells := 1, slots := 8, locals := 38 } : Room).cells ({ frames := 3, cells := 1, slots := 8, locals := 38 } : Room).slots) := by
  refine MetFree.of_bodySF (plainFor_of_name pn_2) hisR ?_
  intro p e s mt args below meth cd s₁ Bd hml0 hP hK
  obtain ⟨hA, hZ, hh⟩ := hP
  have hx := Bd.exec
  have hby := Bd.bytes
  have hml : cd.maxLocals = 1 := hml0
  have hown : s.vm.findClass "com/example/interleave/interleave/Tally" = some mt.cls := findClass_of_methodNamed Bd.named
  have hnm := (name_of_methodNamed Bd.named Bd.method).1
  have hlk : meth.locks = false := BodyLoose.notSynchronized Bd
  have hrt := Bd.returns
  have X0 : Stand p l e ({ frames := 3, cells := 1, slots := 8, locals := 38 } : Room) s mt args below meth cd s₁ [] 0 0 := Stand.of_body Bd
  have e0 : s₁.heap = h0 := by rw [← hh, Bd.state]; rfl
  have N0 := Fr.nil n0
  show Win p e below (Ends s (Q_tinit Z a st cm nn lo re fa h0 n0) ({ frames := 3, cells := 1, slots := 8, locals := 38 } : Room).cells ({ frames := 3, cells := 1, slots := 8, locals := 38 } : Room).slots) s₁ (entryFrame mt args 1)
  rw [hA, ef_tinit]
  refine Win.st ?_ (fun tq kq => XS.aloadN X0.here hx rfl (hb hby d_prog_84_method_1_0) rfl rfl kq)
  show Win p e below _ s₁ (mkF mt 1 #[.val (.ref a)] [(.ref a)])
  obtain ⟨T17, X17, e17, st17⟩ := initO X0 hx hZ hown (hw _ (List.mem_of_getElem? (i := 6) rfl)) (hw _ (List.mem_of_getElem? (i := 7) rfl)) (hw _ (List.mem_of_getElem? (i := 8) rfl)) e0 (g := (mkF mt 1 #[.val (.ref a)] [(.ref a)])) rfl (by rw [hml]; rfl) rfl (hb hby d_prog_84_method_1_1) (by decide) (W := 0) (by show 2 * 0 + _ ≤ _; exact Nat.le_of_eq rfl) (by decide)
  refine Win.st ?_ st17
  show Win p e below _ T17 (mkF mt 4 #[.val (.ref a)] [])
  refine Win.st ?_ (fun tq kq => XS.aloadN X17.here hx rfl (hb hby d_prog_84_method_1_4) rfl rfl kq)
  show Win p e below _ T17 (mkF mt 5 #[.val (.ref a)] [(.ref a)])
  obtain ⟨T18, h18, X18, e18, E18, A18, D18, -, st18⟩ := newO X17 hx hZ hown (hw _ (List.mem_of_getElem? (i := 9) rfl)) (hw _ (List.mem_of_getElem? (i := 10) rfl)) (hw _ (List.mem_of_getElem? (i := 11) rfl)) e17 (g := (mkF mt 5 #[.val (.ref a)] [(.ref a)])) rfl (hb hby d_prog_84_method_1_5) (by decide) (by decide)
  obtain ⟨b18, gq18⟩ : ∃ z, z = h0.size := ⟨_, rfl⟩
  rw [← gq18] at A18 D18 st18
  have ne19 : a ≠ b18 := own_new gq18 E.lt
  have g20 : n0 ≤ b18 := own_newle Z0 gq18
  have z21 : h0.size ≤ b18 := own_newle (Keep.refl h0 [a]).1 gq18
  have ke18 := own_kext E18
  replace X18 : Stand p l e _ s mt args below meth cd T18 _ 1 8 := X18
  have f22_15 := E.keep ke18
  have f22_16 := F_st.keep ke18 nin0
  have f22_17 := F_cm.keep ke18 nin0
  have f22_18 := F_nn.keep ke18 nin0
  have f22_19 := F_lo.keep ke18 nin0
  have f22_20 := F_re.keep ke18 nin0
  have f22_21 := F_fa.keep ke18 nin0
  have f22_22 := F_m.keep ke18 nin0
  have Z23 : n0 ≤ h18.size := Nat.le_trans Z0 ke18.1
  have K24 : Keep h0 h18 [a] := Keep.trans (Keep.refl h0 [a]) ke18 all0
  have fn18_loadFactor : Fld Z h18 b18 "java/util/HashMap" "loadFactor" "F" (.float (0 : UInt32)) := D18 (Or.inr (hw _ (List.mem_of_getElem? (i := 24) rfl))) (ty := .float) (by decide)
  refine Win.st ?_ st18
  show Win p e below _ T18 (mkF mt 8 #[.val (.ref a)] [(.ref b18), (.ref a)])
  refine Win.st ?_ (fun tq kq => XS.dup X18.here hx rfl (hb hby d_prog_84_method_1_8) rfl rfl kq)
  show Win p e below _ T18 (mkF mt 9 #[.val (.ref a)] [(.ref b18), (.ref b18), (.ref a)])
  obtain ⟨v25, _, ⟨T25, L25, k25, n25⟩, -, X25, ⟨Lc25, hQ25, l25, y25, z25⟩, st25⟩ := X18.specialBack hx (y := (⟨"java/util/HashMap", "<init>", "()V"⟩ : MethodName)) rfl hown (mvT hZ (hw _ (List.mem_of_getElem? (i := 12) rfl))) (mvT hZ (hw _ (List.mem_of_getElem? (i := 13) rfl))) (mvT hZ (hw _ (List.mem_of_getElem? (i := 14) rfl))) (by decide) (backOf (W := 2) (rm_hm l Z a0 hw [] b18 (.float (0 : UInt32)) h18 n0 Z23 A18 fn18_loadFactor g20) hZ (hw _ (List.mem_of_getElem? (i := 14) rfl)) (hw _ (List.mem_of_getElem? (i := 11) rfl)) (by decide) (by decide)) (g := (mkF mt 9 #[.val (.ref a)] [(.ref b18), (.ref b18), (.ref a)])) rfl (by rw [hml]; rfl) (Steps.refl _) (a := b18) (argsL := []) (rest := [(.ref b18), (.ref a)]) (lenOf pd_0 rfl) rfl (by show 2 * 0 + _ ≤ _; exact Nat.le_of_eq rfl) (hb hby d_prog_84_method_1_9) (fun _ _ => ⟨rfl, e18, (by decide : 1 + 0 ≤ _), (by decide : 8 + 0 ≤ _)⟩)
  dsimp only [Pt.U, Pt.locs, Pt.cells, Pt.slots] at X25 l25 y25 z25 st25 hQ25
  subst y25 z25
  replace X25 : Stand p l e _ s mt args below meth cd T25 L25 1 8 := X25
  obtain ⟨h25, e25⟩ : ∃ z, T25.heap = z := ⟨_, rfl⟩
  rw [e25] at hQ25
  obtain ⟨rfl, Nq25, K25⟩ := hQ25
  have N25 : Fr n0 L25 := by rw [l25]; exact Fr.app N0 Nq25
  have f26_38 := f22_15.keep K25
  have f26_39 := f22_16.keep K25 (ninS ne19 nin0)
  have f26_40 := f22_17.keep K25 (ninS ne19 nin0)
  have f26_41 := f22_18.keep K25 (ninS ne19 nin0)
  have f26_42 := f22_19.keep K25 (ninS ne19 nin0)
  have f26_43 := f22_20.keep K25 (ninS ne19 nin0)
  have f26_44 := f22_21.keep K25 (ninS ne19 nin0)
  have f26_45 := f22_22.keep K25 (ninS ne19 nin0)
  have f26_46 := A18.keep K25
  have Z27 : n0 ≤ h25.size := Nat.le_trans Z23 K25.1
  have K28 : Keep h0 h25 [a] := Keep.trans K24 K25 (allS (Or.inr z21) all0)
  refine Win.tr ?_ st25
  show Win p e below _ T25 (mkF mt 12 #[.val (.ref a)] [(.ref b18), (.ref a)])
  obtain ⟨T29, h29, X29, e29, W29, st29⟩ := putF X25 hx hZ hown (host := "") (Or.inl (hw _ (List.mem_of_getElem? (i := 25) rfl))) Via.refl e25 f26_45 f26_38 (Or.inr ⟨(hw _ (List.mem_of_getElem? (i := 26) rfl)), rfl, hnm⟩) (hw _ (List.mem_of_getElem? (i := 1) rfl)) (ty := (.object "java/util/Map")) (by decide) rfl rfl (g := (mkF mt 12 #[.val (.ref a)] [(.ref b18), (.ref a)])) rfl rfl (hb hby d_prog_84_method_1_12)
  obtain ⟨L29, X29, N29⟩ := own_hide X29 N25 ga
  have kp29 := Keep.of_wr W29
  have f29_54 := f26_39.other W29 (Or.inr (slot_ne (Or.inl (hw _ (List.mem_of_getElem? (i := 54) rfl))) (Or.inr (hw _ (List.mem_of_getElem? (i := 26) rfl))) (by decide) (t := .long) (t' := (.object "java/util/Map")) (by decide) (by decide)))
  have f29_55 := f26_40.other W29 (Or.inr (slot_ne (Or.inl (hw _ (List.mem_of_getElem? (i := 33) rfl))) (Or.inr (hw _ (List.mem_of_getElem? (i := 26) rfl))) (by decide) (t := .long) (t' := (.object "java/util/Map")) (by decide) (by decide)))
  have f29_56 := f26_41.other W29 (Or.inr (slot_ne (Or.inl (hw _ (List.mem_of_getElem? (i := 35) rfl))) (Or.inr (hw _ (List.mem_of_getElem? (i := 26) rfl))) (by decide) (t := .long) (t' := (.object "java/util/Map")) (by decide) (by decide)))
  have f29_57 := f26_42.other W29 (Or.inr (slot_ne (Or.inl (hw _ (List.mem_of_getElem? (i := 37) rfl))) (Or.inr (hw _ (List.mem_of_getElem? (i := 26) rfl))) (by decide) (t := .long) (t' := (.object "java/util/Map")) (by decide) (by decide)))
  have f29_58 := f26_43.other W29 (Or.inr (slot_ne (Or.inl (hw _ (List.mem_of_getElem? (i := 61) rfl))) (Or.inr (hw _ (List.mem_of_getElem? (i := 26) rfl))) (by decide) (t := .long) (t' := (.object "java/util/Map")) (by decide) (by decide)))
  have f29_59 := f26_44.other W29 (Or.inr (slot_ne (Or.inl (hw _ (List.mem_of_getElem? (i := 69) rfl))) (Or.inr (hw _ (List.mem_of_getElem? (i := 26) rfl))) (by decide) (t := .long) (t' := (.object "java/util/Map")) (by decide) (by decide)))
  have fw29 := f26_45.same W29
  have f30_61 := f26_38.keep kp29
  have f30_62 := f26_46.keep kp29
  have Z31 : n0 ≤ h29.size := Nat.le_trans Z27 kp29.1
  have K32 : Keep h0 h29 [a] := Keep.trans K28 kp29 (allS (Or.inl (List.mem_of_getElem? (i := 0) rfl)) all0)
  refine Win.st ?_ st29
  show Win p e below _ T29 (mkF mt 15 #[.val (.ref a)] [])
  exact Win.retV X29 hx hlk e29 hrt (hb hby d_prog_84_method_1_15) (by decide) (by decide) ⟨rfl, N29, K32, f29_54, f29_55, f29_56, f29_57, f29_58, f29_59⟩
theorem d_prog_84_method_3_0 : decode prog_84_method_3_code 0 = .ok (.aload_n 0, 1) := by decide +kernel
theorem d_prog_84_method_3_1 : decode prog_84_method_3_code 1 = .ok (.dup, 1) := by decide +kernel
theorem d_prog_84_method_3_2 : decode prog_84_method_3_code 2 = .ok (.getfield 20, 3) := by decide +kernel
theorem d_prog_84_method_3_5 : decode prog_84_method_3_code 5 = .ok (.lconst 1, 1) := by decide +kernel
theorem d_prog_84_method_3_6 : decode prog_84_method_3_code 6 = .ok (.ladd, 1) := by decide +kernel
theorem d_prog_84_method_3_7 : decode prog_84_method_3_code 7 = .ok (.putfield 20, 3) := by decide +kernel
theorem d_prog_84_method_3_10 : decode prog_84_method_3_code 10 = .ok (.aload_n 0, 1) := by decide +kernel
theorem d_prog_84_method_3_11 : decode prog_84_method_3_code 11 = .ok (.dup, 1) := by decide +kernel
theorem d_prog_84_method_3_12 : decode prog_84_method_3_code 12 = .ok (.getfield 23, 3) := by decide +kernel
theorem d_prog_84_method_3_15 : decode prog_84_method_3_code 15 = .ok (.lload_n 1, 1) := by decide +kernel
theorem d_prog_84_method_3_16 : decode prog_84_method_3_code 16 = .ok (.ladd, 1) := by decide +kernel
theorem d_prog_84_method_3_17 : decode prog_84_method_3_code 17 = .ok (.putfield 23, 3) := by decide +kernel
theorem d_prog_84_method_3_20 : decode prog_84_method_3_code 20 = .ok (.aload_n 0, 1) := by decide +kernel
theorem d_prog_84_method_3_21 : decode prog_84_method_3_code 21 = .ok (.aload_n 0, 1) := by decide +kernel
theorem d_prog_84_method_3_22 : decode prog_84_method_3_code 22 = .ok (.getfield 26, 3) := by decide +kernel
theorem d_prog_84_method_3_25 : decode prog_84_method_3_code 25 = .ok (.lload_n 1, 1) := by decide +kernel
theorem d_prog_84_method_3_26 : decode prog_84_method_3_code 26 = .ok (.invokestatic 29, 3) := by decide +kernel
theorem pd_1 : parseMethodDescriptor "(JJ)J" = some ⟨[.long, .long], some .long⟩ := by decide +kernel
theorem d_prog_84_method_3_29 : decode prog_84_method_3_code 29 = .ok (.putfield 26, 3) := by decide +kernel
theorem d_prog_84_method_3_32 : decode prog_84_method_3_code 32 = .ok (.return_, 1) := by decide +kernel
theorem ef_tcommit (mt : MethodId) (a : Addr) (x : Int64) : entryFrame mt #[(.ref a), (.long x)] 3 = mkF mt 0 #[.val (.ref a), .val (.long x), .second] [] := by first | (simp [entryFrame, mkF, argsToLocals, Value.category]; done) | rfl
def Q_tcommit (Z : State) (a : Addr) (x : Int64) (st : Int64) (cm : Int64) (nn : Int64) (lo : Int64) (re : Int64) (fa : Int64) (h0 : Heap) (n0 : Nat) (v : Option Value) (h : Heap) (L : List Loc) : Prop := v = none ∧ Fr n0 L ∧ Keep h0 h [a] ∧ Fld Z h a "com/example/interleave/interleave/Tally" "started" "J" (.long st) ∧ Fld Z h a "com/example/interleave/interleave/Tally" "committed" "J" (.long (cm + (1 : Int64))) ∧ Fld Z h a "com/example/interleave/interleave/Tally" "committedNanos" "J" (.long (nn + x)) ∧ Fld Z h a "com/example/interleave/interleave/Tally" "longestNanos" "J" (.long (own_maxL lo x)) ∧ Fld Z h a "com/example/interleave/interleave/Tally" "retried" "J" (.long re) ∧ Fld Z h a "com/example/interleave/interleave/Tally" "failed" "J" (.long fa)
set_option maxRecDepth 65536 in
set_option maxHeartbeats 40000000 in
theorem rm_tcommit (l : Launch) (Z : State) (a0 : Array Value) (hw : ∀ d ∈ tables_1, d.before a0 Z = true) (ws : List Jvm.Cond) (a : Addr) (x : Int64) (st : Int64) (cm : Int64) (nn : Int64) (lo : Int64) (re : Int64) (fa : Int64) (h0 : Heap) (n0 : Nat) (Z0 : n0 ≤ h0.size) (E : Exa Z h0 a "com/example/interleave/interleave/Tally") (F_st : Fld Z h0 a "com/example/interleave/interleave/Tally" "started" "J" (.long st)) (F_cm : Fld Z h0 a "com/example/interleave/interleave/Tally" "committed" "J" (.long cm)) (F_nn : Fld Z h0 a "com/example/interleave/interleave/Tally" "committedNanos" "J" (.long nn)) (F_lo : Fld Z h0 a "com/example/interleave/interleave/Tally" "longestNanos" "J" (.long lo)) (F_re : Fld Z h0 a "com/example/interleave/interleave/Tally" "retried" "J" (.long re)) (F_fa : Fld Z h0 a "com/example/interleave/interleave/Tally" "failed" "J" (.long fa)) (ga : n0 ≤ a) :
    MetFree l (⟨"com/example/interleave/interleave/Tally", "commit", "(J)V"⟩ : MethodName) (head1 (Jvm.Cond.code (⟨"com/example/interleave/interleave/Tally", "commit", "(J)V"⟩ : MethodName) prog_84_method_3_code 3 none :: ws) ({ frames := 1, cells := 0, slots := 0, locals := 16 } : Room)) (fun aa UU => aa = #[(.ref a), (.long x)] ∧ Z.Warmed39 UU.vm ∧ UU.heap = h0) (fun _ _ _ _ _ => True) (fun _ UU oo UU' => ∃ vv LL, oo = .returned vv ∧ Q_tcommit Z a x st cm nn lo re fa h0 n0 vv UU'.heap LL ∧ FrameEnd UU oo UU' LL ({ frames := 1, cells := 0, slots := 0, locals := 16 } : Room).cells ({ frames := 1, cells := 0, slots := 0, locals := 16 } : Room).slots) := by
  refine MetFree.of_bodySF (plainFor_of_name pn_2) hisR ?_
  intro p e s mt args below meth cd s₁ Bd hml0 hP hK
  obtain ⟨hA, hZ, hh⟩ := hP
  have hx := Bd.exec
  have hby := Bd.bytes
  have hml : cd.maxLocals = 3 := hml0
  have hown : s.vm.findClass "com/example/interleave/interleave/Tally" = some mt.cls := findClass_of_methodNamed Bd.named
  have hnm := (name_of_methodNamed Bd.named Bd.method).1
  have hlk : meth.locks = false := BodyLoose.notSynchronized Bd
  have hrt := Bd.returns
  have X0 : Stand p l e ({ frames := 1, cells := 0, slots := 0, locals := 16 } : Room) s mt args below meth cd s₁ [] 0 0 := Stand.of_body Bd
  have e0 : s₁.heap = h0 := by rw [← hh, Bd.state]; rfl
  have N0 := Fr.nil n0
  show Win p e below (Ends s (Q_tcommit Z a x st cm nn lo re fa h0 n0) ({ frames := 1, cells := 0, slots := 0, locals := 16 } : Room).cells ({ frames := 1, cells := 0, slots := 0, locals := 16 } : Room).slots) s₁ (entryFrame mt args 3)
  rw [hA, ef_tcommit]
  refine Win.st ?_ (fun tq kq => XS.aloadN X0.here hx rfl (hb hby d_prog_84_method_3_0) rfl rfl kq)
  show Win p e below _ s₁ (mkF mt 1 #[.val (.ref a), .val (.long x), .second] [(.ref a)])
  refine Win.st ?_ (fun tq kq => XS.dup X0.here hx rfl (hb hby d_prog_84_method_3_1) rfl rfl kq)
  show Win p e below _ s₁ (mkF mt 2 #[.val (.ref a), .val (.long x), .second] [(.ref a), (.ref a)])
  obtain ⟨T33, X33, e33, st33⟩ := getF X0 hx hZ hown (host := "") (Or.inl (hw _ (List.mem_of_getElem? (i := 32) rfl))) Via.refl e0 F_cm (g := (mkF mt 2 #[.val (.ref a), .val (.long x), .second] [(.ref a), (.ref a)])) rfl rfl (hb hby d_prog_84_method_3_2)
  refine Win.st ?_ st33
  show Win p e below _ T33 (mkF mt 5 #[.val (.ref a), .val (.long x), .second] [(.long cm), (.ref a)])
  refine Win.st ?_ (fun tq kq => XS.lconst X33.here hx rfl (hb hby d_prog_84_method_3_5) kq)
  show Win p e below _ T33 (mkF mt 6 #[.val (.ref a), .val (.long x), .second] [(.long (1 : Int64)), (.long cm), (.ref a)])
  refine Win.st ?_ (fun tq kq => XS.ladd X33.here hx rfl (hb hby d_prog_84_method_3_6) rfl kq)
  show Win p e below _ T33 (mkF mt 7 #[.val (.ref a), .val (.long x), .second] [(.long (cm + (1 : Int64))), (.ref a)])
  obtain ⟨T34, h34, X34, e34, W34, st34⟩ := putF X33 hx hZ hown (host := "") (Or.inl (hw _ (List.mem_of_getElem? (i := 32) rfl))) Via.refl e33 F_cm E (Or.inl (hw _ (List.mem_of_getElem? (i := 33) rfl))) (hw _ (List.mem_of_getElem? (i := 1) rfl)) (ty := .long) (by decide) rfl rfl (g := (mkF mt 7 #[.val (.ref a), .val (.long x), .second] [(.long (cm + (1 : Int64))), (.ref a)])) rfl rfl (hb hby d_prog_84_method_3_7)
  obtain ⟨L34, X34, N34⟩ := own_hide X34 N0 ga
  have kp34 := Keep.of_wr W34
  have f34_14 := F_st.other W34 (Or.inr (slot_ne (Or.inl (hw _ (List.mem_of_getElem? (i := 54) rfl))) (Or.inl (hw _ (List.mem_of_getElem? (i := 33) rfl))) (by decide) (t := .long) (t' := .long) (by decide) (by decide)))
  have fw34 := F_cm.same W34
  have f34_16 := F_nn.other W34 (Or.inr (slot_ne (Or.inl (hw _ (List.mem_of_getElem? (i := 35) rfl))) (Or.inl (hw _ (List.mem_of_getElem? (i := 33) rfl))) (by decide) (t := .long) (t' := .long) (by decide) (by decide)))
  have f34_17 := F_lo.other W34 (Or.inr (slot_ne (Or.inl (hw _ (List.mem_of_getElem? (i := 37) rfl))) (Or.inl (hw _ (List.mem_of_getElem? (i := 33) rfl))) (by decide) (t := .long) (t' := .long) (by decide) (by decide)))
  have f34_18 := F_re.other W34 (Or.inr (slot_ne (Or.inl (hw _ (List.mem_of_getElem? (i := 61) rfl))) (Or.inl (hw _ (List.mem_of_getElem? (i := 33) rfl))) (by decide) (t := .long) (t' := .long) (by decide) (by decide)))
  have f34_19 := F_fa.other W34 (Or.inr (slot_ne (Or.inl (hw _ (List.mem_of_getElem? (i := 69) rfl))) (Or.inl (hw _ (List.mem_of_getElem? (i := 33) rfl))) (by decide) (t := .long) (t' := .long) (by decide) (by decide)))
  have f35_20 := E.keep kp34
  have Z36 : n0 ≤ h34.size := Nat.le_trans Z0 kp34.1
  have K37 : Keep h0 h34 [a] := Keep.trans (Keep.refl h0 [a]) kp34 (allS (Or.inl (List.mem_of_getElem? (i := 0) rfl)) all0)
  refine Win.st ?_ st34
  show Win p e below _ T34 (mkF mt 10 #[.val (.ref a), .val (.long x), .second] [])
  refine Win.st ?_ (fun tq kq => XS.aloadN X34.here hx rfl (hb hby d_prog_84_method_3_10) rfl rfl kq)
  show Win p e below _ T34 (mkF mt 11 #[.val (.ref a), .val (.long x), .second] [(.ref a)])
  refine Win.st ?_ (fun tq kq => XS.dup X34.here hx rfl (hb hby d_prog_84_method_3_11) rfl rfl kq)
  show Win p e below _ T34 (mkF mt 12 #[.val (.ref a), .val (.long x), .second] [(.ref a), (.ref a)])
  obtain ⟨T38, X38, e38, st38⟩ := getF X34 hx hZ hown (host := "") (Or.inl (hw _ (List.mem_of_getElem? (i := 34) rfl))) Via.refl e34 f34_16 (g := (mkF mt 12 #[.val (.ref a), .val (.long x), .second] [(.ref a), (.ref a)])) rfl rfl (hb hby d_prog_84_method_3_12)
  refine Win.st ?_ st38
  show Win p e below _ T38 (mkF mt 15 #[.val (.ref a), .val (.long x), .second] [(.long nn), (.ref a)])
  refine Win.st ?_ (fun tq kq => XS.lloadN X38.here hx rfl (hb hby d_prog_84_method_3_15) rfl kq)
  show Win p e below _ T38 (mkF mt 16 #[.val (.ref a), .val (.long x), .second] [(.long x), (.long nn), (.ref a)])
  refine Win.st ?_ (fun tq kq => XS.ladd X38.here hx rfl (hb hby d_prog_84_method_3_16) rfl kq)
  show Win p e below _ T38 (mkF mt 17 #[.val (.ref a), .val (.long x), .second] [(.long (nn + x)), (.ref a)])
  obtain ⟨T39, h39, X39, e39, W39, st39⟩ := putF X38 hx hZ hown (host := "") (Or.inl (hw _ (List.mem_of_getElem? (i := 34) rfl))) Via.refl e38 f34_16 f35_20 (Or.inl (hw _ (List.mem_of_getElem? (i := 35) rfl))) (hw _ (List.mem_of_getElem? (i := 1) rfl)) (ty := .long) (by decide) rfl rfl (g := (mkF mt 17 #[.val (.ref a), .val (.long x), .second] [(.long (nn + x)), (.ref a)])) rfl rfl (hb hby d_prog_84_method_3_17)
  obtain ⟨L39, X39, N39⟩ := own_hide X39 N34 ga
  have kp39 := Keep.of_wr W39
  have f39_39 := f34_14.other W39 (Or.inr (slot_ne (Or.inl (hw _ (List.mem_of_getElem? (i := 54) rfl))) (Or.inl (hw _ (List.mem_of_getElem? (i := 35) rfl))) (by decide) (t := .long) (t' := .long) (by decide) (by decide)))
  have f39_40 := fw34.other W39 (Or.inr (slot_ne (Or.inl (hw _ (List.mem_of_getElem? (i := 33) rfl))) (Or.inl (hw _ (List.mem_of_getElem? (i := 35) rfl))) (by decide) (t := .long) (t' := .long) (by decide) (by decide)))
  have fw39 := f34_16.same W39
  have f39_42 := f34_17.other W39 (Or.inr (slot_ne (Or.inl (hw _ (List.mem_of_getElem? (i := 37) rfl))) (Or.inl (hw _ (List.mem_of_getElem? (i := 35) rfl))) (by decide) (t := .long) (t' := .long) (by decide) (by decide)))
  have f39_43 := f34_18.other W39 (Or.inr (slot_ne (Or.inl (hw _ (List.mem_of_getElem? (i := 61) rfl))) (Or.inl (hw _ (List.mem_of_getElem? (i := 35) rfl))) (by decide) (t := .long) (t' := .long) (by decide) (by decide)))
  have f39_44 := f34_19.other W39 (Or.inr (slot_ne (Or.inl (hw _ (List.mem_of_getElem? (i := 69) rfl))) (Or.inl (hw _ (List.mem_of_getElem? (i := 35) rfl))) (by decide) (t := .long) (t' := .long) (by decide) (by decide)))
  have f40_45 := f35_20.keep kp39
  have Z41 : n0 ≤ h39.size := Nat.le_trans Z36 kp39.1
  have K42 : Keep h0 h39 [a] := Keep.trans K37 kp39 (allS (Or.inl (List.mem_of_getElem? (i := 0) rfl)) all0)
  refine Win.st ?_ st39
  show Win p e below _ T39 (mkF mt 20 #[.val (.ref a), .val (.long x), .second] [])
  refine Win.st ?_ (fun tq kq => XS.aloadN X39.here hx rfl (hb hby d_prog_84_method_3_20) rfl rfl kq)
  show Win p e below _ T39 (mkF mt 21 #[.val (.ref a), .val (.long x), .second] [(.ref a)])
  refine Win.st ?_ (fun tq kq => XS.aloadN X39.here hx rfl (hb hby d_prog_84_method_3_21) rfl rfl kq)
  show Win p e below _ T39 (mkF mt 22 #[.val (.ref a), .val (.long x), .second] [(.ref a), (.ref a)])
  obtain ⟨T43, X43, e43, st43⟩ := getF X39 hx hZ hown (host := "") (Or.inl (hw _ (List.mem_of_getElem? (i := 36) rfl))) Via.refl e39 f39_42 (g := (mkF mt 22 #[.val (.ref a), .val (.long x), .second] [(.ref a), (.ref a)])) rfl rfl (hb hby d_prog_84_method_3_22)
  refine Win.st ?_ st43
  show Win p e below _ T43 (mkF mt 25 #[.val (.ref a), .val (.long x), .second] [(.long lo), (.ref a)])
  refine Win.st ?_ (fun tq kq => XS.lloadN X43.here hx rfl (hb hby d_prog_84_method_3_25) rfl kq)
  show Win p e below _ T43 (mkF mt 26 #[.val (.ref a), .val (.long x), .second] [(.long x), (.long lo), (.ref a)])
  obtain ⟨v44, _, ⟨T44, L44, k44, n44⟩, -, X44, ⟨Lc44, hQ44, l44, y44, z44⟩, st44⟩ := Jvm.LawKit.callS X43 hx (y := (⟨"java/lang/Math", "max", "(JJ)J"⟩ : MethodName)) hown (mvT hZ (hw _ (List.mem_of_getElem? (i := 38) rfl))) (mvT hZ (hw _ (List.mem_of_getElem? (i := 39) rfl))) (mvT hZ (hw _ (List.mem_of_getElem? (i := 40) rfl))) (mvT hZ (hw _ (List.mem_of_getElem? (i := 41) rfl))) (by decide) (backOf (W := 1) (rm_maxj l Z a0 hw [] lo x h39 n0 Z41 ) hZ (hw _ (List.mem_of_getElem? (i := 41) rfl)) (hw _ (List.mem_of_getElem? (i := 40) rfl)) (by decide) (by decide)) (g := (mkF mt 26 #[.val (.ref a), .val (.long x), .second] [(.long x), (.long lo), (.ref a)])) rfl (by rw [hml]; rfl) (argsL := [(.long lo), (.long x)]) (rest := [(.ref a)]) (lenOf pd_1 rfl) rfl (by show 2 * 0 + _ ≤ _; exact Nat.le_of_eq rfl) (hb hby d_prog_84_method_3_26) (fun _ _ => ⟨rfl, e43, (by decide : 0 + 0 ≤ _), (by decide : 0 + 0 ≤ _)⟩)
  dsimp only [Pt.U, Pt.locs, Pt.cells, Pt.slots] at X44 l44 y44 z44 st44 hQ44
  subst y44 z44
  replace X44 : Stand p l e _ s mt args below meth cd T44 L44 0 0 := X44
  obtain ⟨h44, e44⟩ : ∃ z, T44.heap = z := ⟨_, rfl⟩
  rw [e44] at hQ44
  obtain ⟨rfl, Nq44, eh44⟩ := hQ44
  have N44 : Fr n0 L44 := by rw [l44]; exact Fr.app N39 Nq44
  rw [eh44] at e44
  refine Win.st ?_ st44
  show Win p e below _ T44 (mkF mt 29 #[.val (.ref a), .val (.long x), .second] [(.long (own_maxL lo x)), (.ref a)])
  obtain ⟨T45, h45, X45, e45, W45, st45⟩ := putF X44 hx hZ hown (host := "") (Or.inl (hw _ (List.mem_of_getElem? (i := 36) rfl))) Via.refl e44 f39_42 f40_45 (Or.inl (hw _ (List.mem_of_getElem? (i := 37) rfl))) (hw _ (List.mem_of_getElem? (i := 1) rfl)) (ty := .long) (by decide) rfl rfl (g := (mkF mt 29 #[.val (.ref a), .val (.long x), .second] [(.long (own_maxL lo x)), (.ref a)])) rfl rfl (hb hby d_prog_84_method_3_29)
  obtain ⟨L45, X45, N45⟩ := own_hide X45 N44 ga
  have kp45 := Keep.of_wr W45
  have f45_73 := f39_39.other W45 (Or.inr (slot_ne (Or.inl (hw _ (List.mem_of_getElem? (i := 54) rfl))) (Or.inl (hw _ (List.mem_of_getElem? (i := 37) rfl))) (by decide) (t := .long) (t' := .long) (by decide) (by decide)))
  have f45_74 := f39_40.other W45 (Or.inr (slot_ne (Or.inl (hw _ (List.mem_of_getElem? (i := 33) rfl))) (Or.inl (hw _ (List.mem_of_getElem? (i := 37) rfl))) (by decide) (t := .long) (t' := .long) (by decide) (by decide)))
  have f45_75 := fw39.other W45 (Or.inr (slot_ne (Or.inl (hw _ (List.mem_of_getElem? (i := 35) rfl))) (Or.inl (hw _ (List.mem_of_getElem? (i := 37) rfl))) (by decide) (t := .long) (t' := .long) (by decide) (by decide)))
  have fw45 := f39_42.same W45
  have f45_77 := f39_43.other W45 (Or.inr (slot_ne (Or.inl (hw _ (List.mem_of_getElem? (i := 61) rfl))) (Or.inl (hw _ (List.mem_of_getElem? (i := 37) rfl))) (by decide) (t := .long) (t' := .long) (by decide) (by decide)))
  have f45_78 := f39_44.other W45 (Or.inr (slot_ne (Or.inl (hw _ (List.mem_of_getElem? (i := 69) rfl))) (Or.inl (hw _ (List.mem_of_getElem? (i := 37) rfl))) (by decide) (t := .long) (t' := .long) (by decide) (by decide)))
  have f46_79 := f40_45.keep kp45
  have Z47 : n0 ≤ h45.size := Nat.le_trans Z41 kp45.1
  have K48 : Keep h0 h45 [a] := Keep.trans K42 kp45 (allS (Or.inl (List.mem_of_getElem? (i := 0) rfl)) all0)
  refine Win.st ?_ st45
  show Win p e below _ T45 (mkF mt 32 #[.val (.ref a), .val (.long x), .second] [])
  exact Win.retV X45 hx hlk e45 hrt (hb hby d_prog_84_method_3_32) (by decide) (by decide) ⟨rfl, N45, K48, f45_73, f45_74, f45_75, fw45, f45_77, f45_78⟩
theorem d_prog_84_method_13_0 : decode prog_84_method_13_code 0 = .ok (.aload_n 0, 1) := by decide +kernel
theorem d_prog_84_method_13_1 : decode prog_84_method_13_code 1 = .ok (.getfield 20, 3) := by decide +kernel
theorem d_prog_84_method_13_4 : decode prog_84_method_13_code 4 = .ok (.lconst 0, 1) := by decide +kernel
theorem d_prog_84_method_13_5 : decode prog_84_method_13_code 5 = .ok (.lcmp, 1) := by decide +kernel
theorem d_prog_84_method_13_6 : decode prog_84_method_13_code 6 = .ok (.ifCond .ne 7, 3) := by decide +kernel
theorem d_prog_84_method_13_9 : decode prog_84_method_13_code 9 = .ok (.lconst 0, 1) := by decide +kernel
theorem d_prog_84_method_13_10 : decode prog_84_method_13_code 10 = .ok (.goto 12, 3) := by decide +kernel
theorem d_prog_84_method_13_22 : decode prog_84_method_13_code 22 = .ok (.lreturn, 1) := by decide +kernel
theorem d_prog_84_method_13_13 : decode prog_84_method_13_code 13 = .ok (.aload_n 0, 1) := by decide +kernel
theorem d_prog_84_method_13_14 : decode prog_84_method_13_code 14 = .ok (.getfield 23, 3) := by decide +kernel
theorem d_prog_84_method_13_17 : decode prog_84_method_13_code 17 = .ok (.aload_n 0, 1) := by decide +kernel
theorem d_prog_84_method_13_18 : decode prog_84_method_13_code 18 = .ok (.getfield 20, 3) := by decide +kernel
theorem d_prog_84_method_13_21 : decode prog_84_method_13_code 21 = .ok (.ldiv, 1) := by decide +kernel
theorem ef_tavg (mt : MethodId) (a : Addr) : entryFrame mt #[(.ref a)] 1 = mkF mt 0 #[.val (.ref a)] [] := by first | (simp [entryFrame, mkF, argsToLocals, Value.category]; done) | rfl
def Q_tavg (Z : State) (a : Addr) (cm : Int64) (nn : Int64) (h0 : Heap) (n0 : Nat) (v : Option Value) (h : Heap) (L : List Loc) : Prop := v = some (.long (own_avg cm nn)) ∧ Fr n0 L ∧ h = h0
set_option maxRecDepth 65536 in
set_option maxHeartbeats 40000000 in
theorem rm_tavg (l : Launch) (Z : State) (a0 : Array Value) (hw : ∀ d ∈ tables_1, d.before a0 Z = true) (ws : List Jvm.Cond) (a : Addr) (cm : Int64) (nn : Int64) (h0 : Heap) (n0 : Nat) (Z0 : n0 ≤ h0.size) (F1 : Fld Z h0 a "com/example/interleave/interleave/Tally" "committed" "J" (.long cm)) (F2 : Fld Z h0 a "com/example/interleave/interleave/Tally" "committedNanos" "J" (.long nn)) :
    MetFree l (⟨"com/example/interleave/interleave/Tally", "averageNanos", "()J"⟩ : MethodName) (head1 (Jvm.Cond.code (⟨"com/example/interleave/interleave/Tally", "averageNanos", "()J"⟩ : MethodName) prog_84_method_13_code 1 (some .long) :: ws) ({ frames := 0, cells := 0, slots := 0, locals := 0 } : Room)) (fun aa UU => aa = #[(.ref a)] ∧ Z.Warmed39 UU.vm ∧ UU.heap = h0) (fun _ _ _ _ _ => True) (fun _ UU oo UU' => ∃ vv LL, oo = .returned vv ∧ Q_tavg Z a cm nn h0 n0 vv UU'.heap LL ∧ FrameEnd UU oo UU' LL ({ frames := 0, cells := 0, slots := 0, locals := 0 } : Room).cells ({ frames := 0, cells := 0, slots := 0, locals := 0 } : Room).slots) := by
  refine MetFree.of_bodySF (plainFor_of_name pn_2) hisR ?_
  intro p e s mt args below meth cd s₁ Bd hml0 hP hK
  obtain ⟨hA, hZ, hh⟩ := hP
  have hx := Bd.exec
  have hby := Bd.bytes
  have hml : cd.maxLocals = 1 := hml0
  have hown : s.vm.findClass "com/example/interleave/interleave/Tally" = some mt.cls := findClass_of_methodNamed Bd.named
  have hnm := (name_of_methodNamed Bd.named Bd.method).1
  have hlk : meth.locks = false := BodyLoose.notSynchronized Bd
  have hrt := Bd.returns
  have X0 : Stand p l e ({ frames := 0, cells := 0, slots := 0, locals := 0 } : Room) s mt args below meth cd s₁ [] 0 0 := Stand.of_body Bd
  have e0 : s₁.heap = h0 := by rw [← hh, Bd.state]; rfl
  have N0 := Fr.nil n0
  show Win p e below (Ends s (Q_tavg Z a cm nn h0 n0) ({ frames := 0, cells := 0, slots := 0, locals := 0 } : Room).cells ({ frames := 0, cells := 0, slots := 0, locals := 0 } : Room).slots) s₁ (entryFrame mt args 1)
  rw [hA, ef_tavg]
  refine Win.st ?_ (fun tq kq => XS.aloadN X0.here hx rfl (hb hby d_prog_84_method_13_0) rfl rfl kq)
  show Win p e below _ s₁ (mkF mt 1 #[.val (.ref a)] [(.ref a)])
  obtain ⟨T49, X49, e49, st49⟩ := getF X0 hx hZ hown (host := "") (Or.inl (hw _ (List.mem_of_getElem? (i := 32) rfl))) Via.refl e0 F1 (g := (mkF mt 1 #[.val (.ref a)] [(.ref a)])) rfl rfl (hb hby d_prog_84_method_13_1)
  refine Win.st ?_ st49
  show Win p e below _ T49 (mkF mt 4 #[.val (.ref a)] [(.long cm)])
  refine Win.st ?_ (fun tq kq => XS.lconst X49.here hx rfl (hb hby d_prog_84_method_13_4) kq)
  show Win p e below _ T49 (mkF mt 5 #[.val (.ref a)] [(.long (0 : Int64)), (.long cm)])
  refine Win.st ?_ (fun tq kq => XS.lcmp X49.here hx rfl (hb hby d_prog_84_method_13_5) rfl kq)
  show Win p e below _ T49 (mkF mt 6 #[.val (.ref a)] [(.int (lcmpW cm (0 : Int64)))])
  by_cases hc : (lcmpW cm (0 : Int64)) = (0 : Int32)
  · refine Win.st ?_ (fun tq kq => XS.ifNo X49.here hx rfl (hb hby d_prog_84_method_13_6) rfl ((if0 _ _).trans (teq hc).2) kq)
    show Win p e below _ T49 (mkF mt 9 #[.val (.ref a)] [])
    refine Win.st ?_ (fun tq kq => XS.lconst X49.here hx rfl (hb hby d_prog_84_method_13_9) kq)
    show Win p e below _ T49 (mkF mt 10 #[.val (.ref a)] [(.long (0 : Int64))])
    refine Win.st ?_ (fun tq kq => XS.goto X49.here hx rfl (pc0 := 10) (pc' := 22) rfl (hb hby d_prog_84_method_13_10) (by decide) (by decide) kq)
    show Win p e below _ T49 (mkF mt 22 #[.val (.ref a)] [(.long (0 : Int64))])
    exact Win.ret X49 hx hlk e49 hrt rfl (Or.inr (Or.inl ⟨rfl, rfl, _, rfl⟩)) (hb hby d_prog_84_method_13_22) (by decide) (by decide) ⟨by simp only [own_avg, hc, if_true, if_false], N0, rfl⟩
  · refine Win.st ?_ (fun tq kq => XS.ifYes X49.here hx rfl (pc0 := 6) (pc' := 13) rfl (hb hby d_prog_84_method_13_6) rfl ((if0 _ _).trans (feq hc).2) (by decide) (by decide) kq)
    show Win p e below _ T49 (mkF mt 13 #[.val (.ref a)] [])
    refine Win.st ?_ (fun tq kq => XS.aloadN X49.here hx rfl (hb hby d_prog_84_method_13_13) rfl rfl kq)
    show Win p e below _ T49 (mkF mt 14 #[.val (.ref a)] [(.ref a)])
    obtain ⟨T50, X50, e50, st50⟩ := getF X49 hx hZ hown (host := "") (Or.inl (hw _ (List.mem_of_getElem? (i := 34) rfl))) Via.refl e49 F2 (g := (mkF mt 14 #[.val (.ref a)] [(.ref a)])) rfl rfl (hb hby d_prog_84_method_13_14)
    refine Win.st ?_ st50
    show Win p e below _ T50 (mkF mt 17 #[.val (.ref a)] [(.long nn)])
    refine Win.st ?_ (fun tq kq => XS.aloadN X50.here hx rfl (hb hby d_prog_84_method_13_17) rfl rfl kq)
    show Win p e below _ T50 (mkF mt 18 #[.val (.ref a)] [(.ref a), (.long nn)])
    obtain ⟨T51, X51, e51, st51⟩ := getF X50 hx hZ hown (host := "") (Or.inl (hw _ (List.mem_of_getElem? (i := 32) rfl))) Via.refl e50 F1 (g := (mkF mt 18 #[.val (.ref a)] [(.ref a), (.long nn)])) rfl rfl (hb hby d_prog_84_method_13_18)
    refine Win.st ?_ st51
    show Win p e below _ T51 (mkF mt 21 #[.val (.ref a)] [(.long cm), (.long nn)])
    refine Win.st ?_ (fun tq kq => XS.ldiv X51.here hx rfl (hb hby d_prog_84_method_13_21) rfl (fun q => hc ((lw_eq _ _).mpr q)) kq)
    show Win p e below _ T51 (mkF mt 22 #[.val (.ref a)] [(.long (nn / cm))])
    exact Win.ret X51 hx hlk e51 hrt rfl (Or.inr (Or.inl ⟨rfl, rfl, _, rfl⟩)) (hb hby d_prog_84_method_13_22) (by decide) (by decide) ⟨by simp only [own_avg, hc, if_true, if_false], N0, rfl⟩
theorem d_prog_84_method_2_0 : decode prog_84_method_2_code 0 = .ok (.aload_n 0, 1) := by decide +kernel
theorem d_prog_84_method_2_1 : decode prog_84_method_2_code 1 = .ok (.dup, 1) := by decide +kernel
theorem d_prog_84_method_2_2 : decode prog_84_method_2_code 2 = .ok (.getfield 16, 3) := by decide +kernel
theorem d_prog_84_method_2_5 : decode prog_84_method_2_code 5 = .ok (.lconst 1, 1) := by decide +kernel
theorem d_prog_84_method_2_6 : decode prog_84_method_2_code 6 = .ok (.ladd, 1) := by decide +kernel
theorem d_prog_84_method_2_7 : decode prog_84_method_2_code 7 = .ok (.putfield 16, 3) := by decide +kernel
theorem d_prog_84_method_2_10 : decode prog_84_method_2_code 10 = .ok (.return_, 1) := by decide +kernel
theorem ef_tstart (mt : MethodId) (a : Addr) : entryFrame mt #[(.ref a)] 1 = mkF mt 0 #[.val (.ref a)] [] := by first | (simp [entryFrame, mkF, argsToLocals, Value.category]; done) | rfl
def Q_tstart (Z : State) (a : Addr) (st : Int64) (cm : Int64) (nn : Int64) (lo : Int64) (re : Int64) (fa : Int64) (h0 : Heap) (n0 : Nat) (v : Option Value) (h : Heap) (L : List Loc) : Prop := v = none ∧ Fr n0 L ∧ Keep h0 h [a] ∧ Fld Z h a "com/example/interleave/interleave/Tally" "started" "J" (.long (st + (1 : Int64))) ∧ Fld Z h a "com/example/interleave/interleave/Tally" "committed" "J" (.long cm) ∧ Fld Z h a "com/example/interleave/interleave/Tally" "committedNanos" "J" (.long nn) ∧ Fld Z h a "com/example/interleave/interleave/Tally" "longestNanos" "J" (.long lo) ∧ Fld Z h a "com/example/interleave/interleave/Tally" "retried" "J" (.long re) ∧ Fld Z h a "com/example/interleave/interleave/Tally" "failed" "J" (.long fa)
set_option maxRecDepth 65536 in
set_option maxHeartbeats 40000000 in
theorem rm_tstart (l : Launch) (Z : State) (a0 : Array Value) (hw : ∀ d ∈ tables_1, d.before a0 Z = true) (ws : List Jvm.Cond) (a : Addr) (st : Int64) (cm : Int64) (nn : Int64) (lo : Int64) (re : Int64) (fa : Int64) (h0 : Heap) (n0 : Nat) (Z0 : n0 ≤ h0.size) (E : Exa Z h0 a "com/example/interleave/interleave/Tally") (F_st : Fld Z h0 a "com/example/interleave/interleave/Tally" "started" "J" (.long st)) (F_cm : Fld Z h0 a "com/example/interleave/interleave/Tally" "committed" "J" (.long cm)) (F_nn : Fld Z h0 a "com/example/interleave/interleave/Tally" "committedNanos" "J" (.long nn)) (F_lo : Fld Z h0 a "com/example/interleave/interleave/Tally" "longestNanos" "J" (.long lo)) (F_re : Fld Z h0 a "com/example/interleave/interleave/Tally" "retried" "J" (.long re)) (F_fa : Fld Z h0 a "com/example/interleave/interleave/Tally" "failed" "J" (.long fa)) (ga : n0 ≤ a) :
    MetFree l (⟨"com/example/interleave/interleave/Tally", "start", "()V"⟩ : MethodName) (head1 (Jvm.Cond.code (⟨"com/example/interleave/interleave/Tally", "start", "()V"⟩ : MethodName) prog_84_method_2_code 1 none :: ws) ({ frames := 0, cells := 0, slots := 0, locals := 0 } : Room)) (fun aa UU => aa = #[(.ref a)] ∧ Z.Warmed39 UU.vm ∧ UU.heap = h0) (fun _ _ _ _ _ => True) (fun _ UU oo UU' => ∃ vv LL, oo = .returned vv ∧ Q_tstart Z a st cm nn lo re fa h0 n0 vv UU'.heap LL ∧ FrameEnd UU oo UU' LL ({ frames := 0, cells := 0, slots := 0, locals := 0 } : Room).cells ({ frames := 0, cells := 0, slots := 0, locals := 0 } : Room).slots) := by
  refine MetFree.of_bodySF (plainFor_of_name pn_2) hisR ?_
  intro p e s mt args below meth cd s₁ Bd hml0 hP hK
  obtain ⟨hA, hZ, hh⟩ := hP
  have hx := Bd.exec
  have hby := Bd.bytes
  have hml : cd.maxLocals = 1 := hml0
  have hown : s.vm.findClass "com/example/interleave/interleave/Tally" = some mt.cls := findClass_of_methodNamed Bd.named
  have hnm := (name_of_methodNamed Bd.named Bd.method).1
  have hlk : meth.locks = false := BodyLoose.notSynchronized Bd
  have hrt := Bd.returns
  have X0 : Stand p l e ({ frames := 0, cells := 0, slots := 0, locals := 0 } : Room) s mt args below meth cd s₁ [] 0 0 := Stand.of_body Bd
  have e0 : s₁.heap = h0 := by rw [← hh, Bd.state]; rfl
  have N0 := Fr.nil n0
  show Win p e below (Ends s (Q_tstart Z a st cm nn lo re fa h0 n0) ({ frames := 0, cells := 0, slots := 0, locals := 0 } : Room).cells ({ frames := 0, cells := 0, slots := 0, locals := 0 } : Room).slots) s₁ (entryFrame mt args 1)
  rw [hA, ef_tstart]
  refine Win.st ?_ (fun tq kq => XS.aloadN X0.here hx rfl (hb hby d_prog_84_method_2_0) rfl rfl kq)
  show Win p e below _ s₁ (mkF mt 1 #[.val (.ref a)] [(.ref a)])
  refine Win.st ?_ (fun tq kq => XS.dup X0.here hx rfl (hb hby d_prog_84_method_2_1) rfl rfl kq)
  show Win p e below _ s₁ (mkF mt 2 #[.val (.ref a)] [(.ref a), (.ref a)])
  obtain ⟨T52, X52, e52, st52⟩ := getF X0 hx hZ hown (host := "") (Or.inl (hw _ (List.mem_of_getElem? (i := 53) rfl))) Via.refl e0 F_st (g := (mkF mt 2 #[.val (.ref a)] [(.ref a), (.ref a)])) rfl rfl (hb hby d_prog_84_method_2_2)
  refine Win.st ?_ st52
  show Win p e below _ T52 (mkF mt 5 #[.val (.ref a)] [(.long st), (.ref a)])
  refine Win.st ?_ (fun tq kq => XS.lconst X52.here hx rfl (hb hby d_prog_84_method_2_5) kq)
  show Win p e below _ T52 (mkF mt 6 #[.val (.ref a)] [(.long (1 : Int64)), (.long st), (.ref a)])
  refine Win.st ?_ (fun tq kq => XS.ladd X52.here hx rfl (hb hby d_prog_84_method_2_6) rfl kq)
  show Win p e below _ T52 (mkF mt 7 #[.val (.ref a)] [(.long (st + (1 : Int64))), (.ref a)])
  obtain ⟨T53, h53, X53, e53, W53, st53⟩ := putF X52 hx hZ hown (host := "") (Or.inl (hw _ (List.mem_of_getElem? (i := 53) rfl))) Via.refl e52 F_st E (Or.inl (hw _ (List.mem_of_getElem? (i := 54) rfl))) (hw _ (List.mem_of_getElem? (i := 1) rfl)) (ty := .long) (by decide) rfl rfl (g := (mkF mt 7 #[.val (.ref a)] [(.long (st + (1 : Int64))), (.ref a)])) rfl rfl (hb hby d_prog_84_method_2_7)
  obtain ⟨L53, X53, N53⟩ := own_hide X53 N0 ga
  have kp53 := Keep.of_wr W53
  have fw53 := F_st.same W53
  have f53_15 := F_cm.other W53 (Or.inr (slot_ne (Or.inl (hw _ (List.mem_of_getElem? (i := 33) rfl))) (Or.inl (hw _ (List.mem_of_getElem? (i := 54) rfl))) (by decide) (t := .long) (t' := .long) (by decide) (by decide)))
  have f53_16 := F_nn.other W53 (Or.inr (slot_ne (Or.inl (hw _ (List.mem_of_getElem? (i := 35) rfl))) (Or.inl (hw _ (List.mem_of_getElem? (i := 54) rfl))) (by decide) (t := .long) (t' := .long) (by decide) (by decide)))
  have f53_17 := F_lo.other W53 (Or.inr (slot_ne (Or.inl (hw _ (List.mem_of_getElem? (i := 37) rfl))) (Or.inl (hw _ (List.mem_of_getElem? (i := 54) rfl))) (by decide) (t := .long) (t' := .long) (by decide) (by decide)))
  have f53_18 := F_re.other W53 (Or.inr (slot_ne (Or.inl (hw _ (List.mem_of_getElem? (i := 61) rfl))) (Or.inl (hw _ (List.mem_of_getElem? (i := 54) rfl))) (by decide) (t := .long) (t' := .long) (by decide) (by decide)))
  have f53_19 := F_fa.other W53 (Or.inr (slot_ne (Or.inl (hw _ (List.mem_of_getElem? (i := 69) rfl))) (Or.inl (hw _ (List.mem_of_getElem? (i := 54) rfl))) (by decide) (t := .long) (t' := .long) (by decide) (by decide)))
  have f54_20 := E.keep kp53
  have Z55 : n0 ≤ h53.size := Nat.le_trans Z0 kp53.1
  have K56 : Keep h0 h53 [a] := Keep.trans (Keep.refl h0 [a]) kp53 (allS (Or.inl (List.mem_of_getElem? (i := 0) rfl)) all0)
  refine Win.st ?_ st53
  show Win p e below _ T53 (mkF mt 10 #[.val (.ref a)] [])
  exact Win.retV X53 hx hlk e53 hrt (hb hby d_prog_84_method_2_10) (by decide) (by decide) ⟨rfl, N53, K56, fw53, f53_15, f53_16, f53_17, f53_18, f53_19⟩
theorem d_prog_84_method_5_0 : decode prog_84_method_5_code 0 = .ok (.aload_n 0, 1) := by decide +kernel
theorem d_prog_84_method_5_1 : decode prog_84_method_5_code 1 = .ok (.dup, 1) := by decide +kernel
theorem d_prog_84_method_5_2 : decode prog_84_method_5_code 2 = .ok (.getfield 51, 3) := by decide +kernel
theorem d_prog_84_method_5_5 : decode prog_84_method_5_code 5 = .ok (.lconst 1, 1) := by decide +kernel
theorem d_prog_84_method_5_6 : decode prog_84_method_5_code 6 = .ok (.ladd, 1) := by decide +kernel
theorem d_prog_84_method_5_7 : decode prog_84_method_5_code 7 = .ok (.putfield 51, 3) := by decide +kernel
theorem d_prog_84_method_5_10 : decode prog_84_method_5_code 10 = .ok (.return_, 1) := by decide +kernel
theorem ef_tretry (mt : MethodId) (a : Addr) : entryFrame mt #[(.ref a)] 1 = mkF mt 0 #[.val (.ref a)] [] := by first | (simp [entryFrame, mkF, argsToLocals, Value.category]; done) | rfl
def Q_tretry (Z : State) (a : Addr) (st : Int64) (cm : Int64) (nn : Int64) (lo : Int64) (re : Int64) (fa : Int64) (h0 : Heap) (n0 : Nat) (v : Option Value) (h : Heap) (L : List Loc) : Prop := v = none ∧ Fr n0 L ∧ Keep h0 h [a] ∧ Fld Z h a "com/example/interleave/interleave/Tally" "started" "J" (.long st) ∧ Fld Z h a "com/example/interleave/interleave/Tally" "committed" "J" (.long cm) ∧ Fld Z h a "com/example/interleave/interleave/Tally" "committedNanos" "J" (.long nn) ∧ Fld Z h a "com/example/interleave/interleave/Tally" "longestNanos" "J" (.long lo) ∧ Fld Z h a "com/example/interleave/interleave/Tally" "retried" "J" (.long (re + (1 : Int64))) ∧ Fld Z h a "com/example/interleave/interleave/Tally" "failed" "J" (.long fa)
set_option maxRecDepth 65536 in
set_option maxHeartbeats 40000000 in
theorem rm_tretry (l : Launch) (Z : State) (a0 : Array Value) (hw : ∀ d ∈ tables_1, d.before a0 Z = true) (ws : List Jvm.Cond) (a : Addr) (st : Int64) (cm : Int64) (nn : Int64) (lo : Int64) (re : Int64) (fa : Int64) (h0 : Heap) (n0 : Nat) (Z0 : n0 ≤ h0.size) (E : Exa Z h0 a "com/example/interleave/interleave/Tally") (F_st : Fld Z h0 a "com/example/interleave/interleave/Tally" "started" "J" (.long st)) (F_cm : Fld Z h0 a "com/example/interleave/interleave/Tally" "committed" "J" (.long cm)) (F_nn : Fld Z h0 a "com/example/interleave/interleave/Tally" "committedNanos" "J" (.long nn)) (F_lo : Fld Z h0 a "com/example/interleave/interleave/Tally" "longestNanos" "J" (.long lo)) (F_re : Fld Z h0 a "com/example/interleave/interleave/Tally" "retried" "J" (.long re)) (F_fa : Fld Z h0 a "com/example/interleave/interleave/Tally" "failed" "J" (.long fa)) (ga : n0 ≤ a) :
    MetFree l (⟨"com/example/interleave/interleave/Tally", "retry", "()V"⟩ : MethodName) (head1 (Jvm.Cond.code (⟨"com/example/interleave/interleave/Tally", "retry", "()V"⟩ : MethodName) prog_84_method_5_code 1 none :: ws) ({ frames := 0, cells := 0, slots := 0, locals := 0 } : Room)) (fun aa UU => aa = #[(.ref a)] ∧ Z.Warmed39 UU.vm ∧ UU.heap = h0) (fun _ _ _ _ _ => True) (fun _ UU oo UU' => ∃ vv LL, oo = .returned vv ∧ Q_tretry Z a st cm nn lo re fa h0 n0 vv UU'.heap LL ∧ FrameEnd UU oo UU' LL ({ frames := 0, cells := 0, slots := 0, locals := 0 } : Room).cells ({ frames := 0, cells := 0, slots := 0, locals := 0 } : Room).slots) := by
  refine MetFree.of_bodySF (plainFor_of_name pn_2) hisR ?_
  intro p e s mt args below meth cd s₁ Bd hml0 hP hK
  obtain ⟨hA, hZ, hh⟩ := hP
  have hx := Bd.exec
  have hby := Bd.bytes
  have hml : cd.maxLocals = 1 := hml0
  have hown : s.vm.findClass "com/example/interleave/interleave/Tally" = some mt.cls := findClass_of_methodNamed Bd.named
  have hnm := (name_of_methodNamed Bd.named Bd.method).1
  have hlk : meth.locks = false := BodyLoose.notSynchronized Bd
  have hrt := Bd.returns
  have X0 : Stand p l e ({ frames := 0, cells := 0, slots := 0, locals := 0 } : Room) s mt args below meth cd s₁ [] 0 0 := Stand.of_body Bd
  have e0 : s₁.heap = h0 := by rw [← hh, Bd.state]; rfl
  have N0 := Fr.nil n0
  show Win p e below (Ends s (Q_tretry Z a st cm nn lo re fa h0 n0) ({ frames := 0, cells := 0, slots := 0, locals := 0 } : Room).cells ({ frames := 0, cells := 0, slots := 0, locals := 0 } : Room).slots) s₁ (entryFrame mt args 1)
  rw [hA, ef_tretry]
  refine Win.st ?_ (fun tq kq => XS.aloadN X0.here hx rfl (hb hby d_prog_84_method_5_0) rfl rfl kq)
  show Win p e below _ s₁ (mkF mt 1 #[.val (.ref a)] [(.ref a)])
  refine Win.st ?_ (fun tq kq => XS.dup X0.here hx rfl (hb hby d_prog_84_method_5_1) rfl rfl kq)
  show Win p e below _ s₁ (mkF mt 2 #[.val (.ref a)] [(.ref a), (.ref a)])
  obtain ⟨T57, X57, e57, st57⟩ := getF X0 hx hZ hown (host := "") (Or.inl (hw _ (List.mem_of_getElem? (i := 60) rfl))) Via.refl e0 F_re (g := (mkF mt 2 #[.val (.ref a)] [(.ref a), (.ref a)])) rfl rfl (hb hby d_prog_84_method_5_2)
  refine Win.st ?_ st57
  show Win p e below _ T57 (mkF mt 5 #[.val (.ref a)] [(.long re), (.ref a)])
  refine Win.st ?_ (fun tq kq => XS.lconst X57.here hx rfl (hb hby d_prog_84_method_5_5) kq)
  show Win p e below _ T57 (mkF mt 6 #[.val (.ref a)] [(.long (1 : Int64)), (.long re), (.ref a)])
  refine Win.st ?_ (fun tq kq => XS.ladd X57.here hx rfl (hb hby d_prog_84_method_5_6) rfl kq)
  show Win p e below _ T57 (mkF mt 7 #[.val (.ref a)] [(.long (re + (1 : Int64))), (.ref a)])
  obtain ⟨T58, h58, X58, e58, W58, st58⟩ := putF X57 hx hZ hown (host := "") (Or.inl (hw _ (List.mem_of_getElem? (i := 60) rfl))) Via.refl e57 F_re E (Or.inl (hw _ (List.mem_of_getElem? (i := 61) rfl))) (hw _ (List.mem_of_getElem? (i := 1) rfl)) (ty := .long) (by decide) rfl rfl (g := (mkF mt 7 #[.val (.ref a)] [(.long (re + (1 : Int64))), (.ref a)])) rfl rfl (hb hby d_prog_84_method_5_7)
  obtain ⟨L58, X58, N58⟩ := own_hide X58 N0 ga
  have kp58 := Keep.of_wr W58
  have f58_14 := F_st.other W58 (Or.inr (slot_ne (Or.inl (hw _ (List.mem_of_getElem? (i := 54) rfl))) (Or.inl (hw _ (List.mem_of_getElem? (i := 61) rfl))) (by decide) (t := .long) (t' := .long) (by decide) (by decide)))
  have f58_15 := F_cm.other W58 (Or.inr (slot_ne (Or.inl (hw _ (List.mem_of_getElem? (i := 33) rfl))) (Or.inl (hw _ (List.mem_of_getElem? (i := 61) rfl))) (by decide) (t := .long) (t' := .long) (by decide) (by decide)))
  have f58_16 := F_nn.other W58 (Or.inr (slot_ne (Or.inl (hw _ (List.mem_of_getElem? (i := 35) rfl))) (Or.inl (hw _ (List.mem_of_getElem? (i := 61) rfl))) (by decide) (t := .long) (t' := .long) (by decide) (by decide)))
  have f58_17 := F_lo.other W58 (Or.inr (slot_ne (Or.inl (hw _ (List.mem_of_getElem? (i := 37) rfl))) (Or.inl (hw _ (List.mem_of_getElem? (i := 61) rfl))) (by decide) (t := .long) (t' := .long) (by decide) (by decide)))
  have fw58 := F_re.same W58
  have f58_19 := F_fa.other W58 (Or.inr (slot_ne (Or.inl (hw _ (List.mem_of_getElem? (i := 69) rfl))) (Or.inl (hw _ (List.mem_of_getElem? (i := 61) rfl))) (by decide) (t := .long) (t' := .long) (by decide) (by decide)))
  have f59_20 := E.keep kp58
  have Z60 : n0 ≤ h58.size := Nat.le_trans Z0 kp58.1
  have K61 : Keep h0 h58 [a] := Keep.trans (Keep.refl h0 [a]) kp58 (allS (Or.inl (List.mem_of_getElem? (i := 0) rfl)) all0)
  refine Win.st ?_ st58
  show Win p e below _ T58 (mkF mt 10 #[.val (.ref a)] [])
  exact Win.retV X58 hx hlk e58 hrt (hb hby d_prog_84_method_5_10) (by decide) (by decide) ⟨rfl, N58, K61, f58_14, f58_15, f58_16, f58_17, fw58, f58_19⟩
theorem d_prog_84_method_6_0 : decode prog_84_method_6_code 0 = .ok (.aload_n 0, 1) := by decide +kernel
theorem d_prog_84_method_6_1 : decode prog_84_method_6_code 1 = .ok (.dup, 1) := by decide +kernel
theorem d_prog_84_method_6_2 : decode prog_84_method_6_code 2 = .ok (.getfield 54, 3) := by decide +kernel
theorem d_prog_84_method_6_5 : decode prog_84_method_6_code 5 = .ok (.lconst 1, 1) := by decide +kernel
theorem d_prog_84_method_6_6 : decode prog_84_method_6_code 6 = .ok (.ladd, 1) := by decide +kernel
theorem d_prog_84_method_6_7 : decode prog_84_method_6_code 7 = .ok (.putfield 54, 3) := by decide +kernel
theorem d_prog_84_method_6_10 : decode prog_84_method_6_code 10 = .ok (.return_, 1) := by decide +kernel
theorem ef_tfail (mt : MethodId) (a : Addr) : entryFrame mt #[(.ref a)] 1 = mkF mt 0 #[.val (.ref a)] [] := by first | (simp [entryFrame, mkF, argsToLocals, Value.category]; done) | rfl
def Q_tfail (Z : State) (a : Addr) (st : Int64) (cm : Int64) (nn : Int64) (lo : Int64) (re : Int64) (fa : Int64) (h0 : Heap) (n0 : Nat) (v : Option Value) (h : Heap) (L : List Loc) : Prop := v = none ∧ Fr n0 L ∧ Keep h0 h [a] ∧ Fld Z h a "com/example/interleave/interleave/Tally" "started" "J" (.long st) ∧ Fld Z h a "com/example/interleave/interleave/Tally" "committed" "J" (.long cm) ∧ Fld Z h a "com/example/interleave/interleave/Tally" "committedNanos" "J" (.long nn) ∧ Fld Z h a "com/example/interleave/interleave/Tally" "longestNanos" "J" (.long lo) ∧ Fld Z h a "com/example/interleave/interleave/Tally" "retried" "J" (.long re) ∧ Fld Z h a "com/example/interleave/interleave/Tally" "failed" "J" (.long (fa + (1 : Int64)))
set_option maxRecDepth 65536 in
set_option maxHeartbeats 40000000 in
theorem rm_tfail (l : Launch) (Z : State) (a0 : Array Value) (hw : ∀ d ∈ tables_1, d.before a0 Z = true) (ws : List Jvm.Cond) (a : Addr) (st : Int64) (cm : Int64) (nn : Int64) (lo : Int64) (re : Int64) (fa : Int64) (h0 : Heap) (n0 : Nat) (Z0 : n0 ≤ h0.size) (E : Exa Z h0 a "com/example/interleave/interleave/Tally") (F_st : Fld Z h0 a "com/example/interleave/interleave/Tally" "started" "J" (.long st)) (F_cm : Fld Z h0 a "com/example/interleave/interleave/Tally" "committed" "J" (.long cm)) (F_nn : Fld Z h0 a "com/example/interleave/interleave/Tally" "committedNanos" "J" (.long nn)) (F_lo : Fld Z h0 a "com/example/interleave/interleave/Tally" "longestNanos" "J" (.long lo)) (F_re : Fld Z h0 a "com/example/interleave/interleave/Tally" "retried" "J" (.long re)) (F_fa : Fld Z h0 a "com/example/interleave/interleave/Tally" "failed" "J" (.long fa)) (ga : n0 ≤ a) :
    MetFree l (⟨"com/example/interleave/interleave/Tally", "fail", "()V"⟩ : MethodName) (head1 (Jvm.Cond.code (⟨"com/example/interleave/interleave/Tally", "fail", "()V"⟩ : MethodName) prog_84_method_6_code 1 none :: ws) ({ frames := 0, cells := 0, slots := 0, locals := 0 } : Room)) (fun aa UU => aa = #[(.ref a)] ∧ Z.Warmed39 UU.vm ∧ UU.heap = h0) (fun _ _ _ _ _ => True) (fun _ UU oo UU' => ∃ vv LL, oo = .returned vv ∧ Q_tfail Z a st cm nn lo re fa h0 n0 vv UU'.heap LL ∧ FrameEnd UU oo UU' LL ({ frames := 0, cells := 0, slots := 0, locals := 0 } : Room).cells ({ frames := 0, cells := 0, slots := 0, locals := 0 } : Room).slots) := by
  refine MetFree.of_bodySF (plainFor_of_name pn_2) hisR ?_
  intro p e s mt args below meth cd s₁ Bd hml0 hP hK
  obtain ⟨hA, hZ, hh⟩ := hP
  have hx := Bd.exec
  have hby := Bd.bytes
  have hml : cd.maxLocals = 1 := hml0
  have hown : s.vm.findClass "com/example/interleave/interleave/Tally" = some mt.cls := findClass_of_methodNamed Bd.named
  have hnm := (name_of_methodNamed Bd.named Bd.method).1
  have hlk : meth.locks = false := BodyLoose.notSynchronized Bd
  have hrt := Bd.returns
  have X0 : Stand p l e ({ frames := 0, cells := 0, slots := 0, locals := 0 } : Room) s mt args below meth cd s₁ [] 0 0 := Stand.of_body Bd
  have e0 : s₁.heap = h0 := by rw [← hh, Bd.state]; rfl
  have N0 := Fr.nil n0
  show Win p e below (Ends s (Q_tfail Z a st cm nn lo re fa h0 n0) ({ frames := 0, cells := 0, slots := 0, locals := 0 } : Room).cells ({ frames := 0, cells := 0, slots := 0, locals := 0 } : Room).slots) s₁ (entryFrame mt args 1)
  rw [hA, ef_tfail]
  refine Win.st ?_ (fun tq kq => XS.aloadN X0.here hx rfl (hb hby d_prog_84_method_6_0) rfl rfl kq)
  show Win p e below _ s₁ (mkF mt 1 #[.val (.ref a)] [(.ref a)])
  refine Win.st ?_ (fun tq kq => XS.dup X0.here hx rfl (hb hby d_prog_84_method_6_1) rfl rfl kq)
  show Win p e below _ s₁ (mkF mt 2 #[.val (.ref a)] [(.ref a), (.ref a)])
  obtain ⟨T62, X62, e62, st62⟩ := getF X0 hx hZ hown (host := "") (Or.inl (hw _ (List.mem_of_getElem? (i := 68) rfl))) Via.refl e0 F_fa (g := (mkF mt 2 #[.val (.ref a)] [(.ref a), (.ref a)])) rfl rfl (hb hby d_prog_84_method_6_2)
  refine Win.st ?_ st62
  show Win p e below _ T62 (mkF mt 5 #[.val (.ref a)] [(.long fa), (.ref a)])
  refine Win.st ?_ (fun tq kq => XS.lconst X62.here hx rfl (hb hby d_prog_84_method_6_5) kq)
  show Win p e below _ T62 (mkF mt 6 #[.val (.ref a)] [(.long (1 : Int64)), (.long fa), (.ref a)])
  refine Win.st ?_ (fun tq kq => XS.ladd X62.here hx rfl (hb hby d_prog_84_method_6_6) rfl kq)
  show Win p e below _ T62 (mkF mt 7 #[.val (.ref a)] [(.long (fa + (1 : Int64))), (.ref a)])
  obtain ⟨T63, h63, X63, e63, W63, st63⟩ := putF X62 hx hZ hown (host := "") (Or.inl (hw _ (List.mem_of_getElem? (i := 68) rfl))) Via.refl e62 F_fa E (Or.inl (hw _ (List.mem_of_getElem? (i := 69) rfl))) (hw _ (List.mem_of_getElem? (i := 1) rfl)) (ty := .long) (by decide) rfl rfl (g := (mkF mt 7 #[.val (.ref a)] [(.long (fa + (1 : Int64))), (.ref a)])) rfl rfl (hb hby d_prog_84_method_6_7)
  obtain ⟨L63, X63, N63⟩ := own_hide X63 N0 ga
  have kp63 := Keep.of_wr W63
  have f63_14 := F_st.other W63 (Or.inr (slot_ne (Or.inl (hw _ (List.mem_of_getElem? (i := 54) rfl))) (Or.inl (hw _ (List.mem_of_getElem? (i := 69) rfl))) (by decide) (t := .long) (t' := .long) (by decide) (by decide)))
  have f63_15 := F_cm.other W63 (Or.inr (slot_ne (Or.inl (hw _ (List.mem_of_getElem? (i := 33) rfl))) (Or.inl (hw _ (List.mem_of_getElem? (i := 69) rfl))) (by decide) (t := .long) (t' := .long) (by decide) (by decide)))
  have f63_16 := F_nn.other W63 (Or.inr (slot_ne (Or.inl (hw _ (List.mem_of_getElem? (i := 35) rfl))) (Or.inl (hw _ (List.mem_of_getElem? (i := 69) rfl))) (by decide) (t := .long) (t' := .long) (by decide) (by decide)))
  have f63_17 := F_lo.other W63 (Or.inr (slot_ne (Or.inl (hw _ (List.mem_of_getElem? (i := 37) rfl))) (Or.inl (hw _ (List.mem_of_getElem? (i := 69) rfl))) (by decide) (t := .long) (t' := .long) (by decide) (by decide)))
  have f63_18 := F_re.other W63 (Or.inr (slot_ne (Or.inl (hw _ (List.mem_of_getElem? (i := 61) rfl))) (Or.inl (hw _ (List.mem_of_getElem? (i := 69) rfl))) (by decide) (t := .long) (t' := .long) (by decide) (by decide)))
  have fw63 := F_fa.same W63
  have f64_20 := E.keep kp63
  have Z65 : n0 ≤ h63.size := Nat.le_trans Z0 kp63.1
  have K66 : Keep h0 h63 [a] := Keep.trans (Keep.refl h0 [a]) kp63 (allS (Or.inl (List.mem_of_getElem? (i := 0) rfl)) all0)
  refine Win.st ?_ st63
  show Win p e below _ T63 (mkF mt 10 #[.val (.ref a)] [])
  exact Win.retV X63 hx hlk e63 hrt (hb hby d_prog_84_method_6_10) (by decide) (by decide) ⟨rfl, N63, K66, f63_14, f63_15, f63_16, f63_17, f63_18, fw63⟩
theorem pd_2 : parseMethodDescriptor "()J" = some ⟨[], some .long⟩ := by decide +kernel
theorem pd_3 : parseMethodDescriptor "(J)V" = some ⟨[.long], none⟩ := by decide +kernel
theorem pn_3 : plainName "com/example/interleave/interleave/TallyAverageNanosPinLaw" = true := by first | (simp [plainName, overriddenIn]; done) | decide +kernel
theorem ef_law (mt : MethodId) (a : Int64) (b : Int64) (c : Int64) (f : Int32) : entryFrame mt #[(.long a), (.long b), (.long c), (.int f)] maxLocals = mkF mt 0 #[.val (.long a), .second, .val (.long b), .second, .val (.long c), .second, .val (.int f), .unset, .unset, .unset, .unset, .unset, .unset, .unset, .unset, .unset, .unset, .unset, .unset] [] := by first | (simp [entryFrame, mkF, argsToLocals, Value.category, maxLocals]; done) | rfl
def Q_law (Z : State) (a : Int64) (b : Int64) (c : Int64) (f : Int32) (h0 : Heap) (n0 : Nat) (v : Option Value) (h : Heap) (L : List Loc) : Prop := v = some (.int 1) ∧ Fr n0 L
set_option maxRecDepth 65536 in
set_option maxHeartbeats 40000000 in
theorem rm_law (l : Launch) (Z : State) (a0 : Array Value) (hw : ∀ d ∈ tables_1, d.before a0 Z = true) (ws : List Jvm.Cond) (a : Int64) (b : Int64) (c : Int64) (f : Int32) (h0 : Heap) (n0 : Nat) (Z0 : n0 ≤ h0.size) :
    MetFree l x (head1 (Jvm.Cond.code x code maxLocals ret :: ws) room_1) (fun aa UU => aa = #[(.long a), (.long b), (.long c), (.int f)] ∧ Z.Warmed39 UU.vm ∧ UU.heap = h0) (fun _ _ _ _ _ => True) (fun _ UU oo UU' => ∃ vv LL, oo = .returned vv ∧ Q_law Z a b c f h0 n0 vv UU'.heap LL ∧ FrameEnd UU oo UU' LL 2 15) := by
  refine MetFree.of_bodySF (plainFor_of_name pn_3) hisR ?_
  intro p e s mt args below meth cd s₁ Bd hml0 hP hK
  obtain ⟨hA, hZ, hh⟩ := hP
  have hx := Bd.exec
  have hby := Bd.bytes
  have hml : cd.maxLocals = 19 := hml0
  have hown : s.vm.findClass "com/example/interleave/interleave/TallyAverageNanosPinLaw" = some mt.cls := findClass_of_methodNamed Bd.named
  have hnm := (name_of_methodNamed Bd.named Bd.method).1
  have hlk : meth.locks = false := BodyLoose.notSynchronized Bd
  have hrt := Bd.returns
  have X0 : Stand p l e room_1 s mt args below meth cd s₁ [] 0 0 := Stand.of_body Bd
  have e0 : s₁.heap = h0 := by rw [← hh, Bd.state]; rfl
  have N0 := Fr.nil n0
  show Win p e below (Ends s (Q_law Z a b c f h0 n0) 2 15) s₁ (entryFrame mt args maxLocals)
  rw [hA, ef_law]
  refine Win.st ?_ (fun tq kq => XS.lloadN X0.here hx rfl (hb hby at_0) rfl kq)
  show Win p e below _ s₁ (mkF mt 1 #[.val (.long a), .second, .val (.long b), .second, .val (.long c), .second, .val (.int f), .unset, .unset, .unset, .unset, .unset, .unset, .unset, .unset, .unset, .unset, .unset, .unset] [(.long a)])
  refine Win.st ?_ (fun tq kq => XS.iconst X0.here hx rfl (hb hby at_1) kq)
  show Win p e below _ s₁ (mkF mt 2 #[.val (.long a), .second, .val (.long b), .second, .val (.long c), .second, .val (.int f), .unset, .unset, .unset, .unset, .unset, .unset, .unset, .unset, .unset, .unset, .unset, .unset] [(.int (3 : Int32)), (.long a)])
  refine Win.st ?_ (fun tq kq => XS.lushr X0.here hx rfl (hb hby at_2) rfl kq)
  show Win p e below _ s₁ (mkF mt 3 #[.val (.long a), .second, .val (.long b), .second, .val (.long c), .second, .val (.int f), .unset, .unset, .unset, .unset, .unset, .unset, .unset, .unset, .unset, .unset, .unset, .unset] [(.long ((a.toUInt64 >>> ((3 : Int32) &&& 0x3f).toInt64.toUInt64).toInt64))])
  obtain ⟨xx, hqxx⟩ : ∃ z, z = ((a.toUInt64 >>> ((3 : Int32) &&& 0x3f).toInt64.toUInt64).toInt64) := ⟨_, rfl⟩
  rw [← hqxx]
  show Win p e below _ s₁ (mkF mt 3 #[.val (.long a), .second, .val (.long b), .second, .val (.long c), .second, .val (.int f), .unset, .unset, .unset, .unset, .unset, .unset, .unset, .unset, .unset, .unset, .unset, .unset] [(.long xx)])
  refine Win.st ?_ (fun tq kq => XS.lstore X0.here hx rfl (hb hby at_3) rfl (l' := #[.val (.long a), .second, .val (.long b), .second, .val (.long c), .second, .val (.int f), .val (.long xx), .second, .unset, .unset, .unset, .unset, .unset, .unset, .unset, .unset, .unset, .unset]) rfl kq)
  show Win p e below _ s₁ (mkF mt 5 #[.val (.long a), .second, .val (.long b), .second, .val (.long c), .second, .val (.int f), .val (.long xx), .second, .unset, .unset, .unset, .unset, .unset, .unset, .unset, .unset, .unset, .unset] [])
  refine Win.st ?_ (fun tq kq => XS.lloadN X0.here hx rfl (hb hby at_5) rfl kq)
  show Win p e below _ s₁ (mkF mt 6 #[.val (.long a), .second, .val (.long b), .second, .val (.long c), .second, .val (.int f), .val (.long xx), .second, .unset, .unset, .unset, .unset, .unset, .unset, .unset, .unset, .unset, .unset] [(.long b)])
  refine Win.st ?_ (fun tq kq => XS.iconst X0.here hx rfl (hb hby at_6) kq)
  show Win p e below _ s₁ (mkF mt 7 #[.val (.long a), .second, .val (.long b), .second, .val (.long c), .second, .val (.int f), .val (.long xx), .second, .unset, .unset, .unset, .unset, .unset, .unset, .unset, .unset, .unset, .unset] [(.int (3 : Int32)), (.long b)])
  refine Win.st ?_ (fun tq kq => XS.lushr X0.here hx rfl (hb hby at_7) rfl kq)
  show Win p e below _ s₁ (mkF mt 8 #[.val (.long a), .second, .val (.long b), .second, .val (.long c), .second, .val (.int f), .val (.long xx), .second, .unset, .unset, .unset, .unset, .unset, .unset, .unset, .unset, .unset, .unset] [(.long ((b.toUInt64 >>> ((3 : Int32) &&& 0x3f).toInt64.toUInt64).toInt64))])
  obtain ⟨yy, hqyy⟩ : ∃ z, z = ((b.toUInt64 >>> ((3 : Int32) &&& 0x3f).toInt64.toUInt64).toInt64) := ⟨_, rfl⟩
  rw [← hqyy]
  show Win p e below _ s₁ (mkF mt 8 #[.val (.long a), .second, .val (.long b), .second, .val (.long c), .second, .val (.int f), .val (.long xx), .second, .unset, .unset, .unset, .unset, .unset, .unset, .unset, .unset, .unset, .unset] [(.long yy)])
  refine Win.st ?_ (fun tq kq => XS.lstore X0.here hx rfl (hb hby at_8) rfl (l' := #[.val (.long a), .second, .val (.long b), .second, .val (.long c), .second, .val (.int f), .val (.long xx), .second, .val (.long yy), .second, .unset, .unset, .unset, .unset, .unset, .unset, .unset, .unset]) rfl kq)
  show Win p e below _ s₁ (mkF mt 10 #[.val (.long a), .second, .val (.long b), .second, .val (.long c), .second, .val (.int f), .val (.long xx), .second, .val (.long yy), .second, .unset, .unset, .unset, .unset, .unset, .unset, .unset, .unset] [])
  refine Win.st ?_ (fun tq kq => XS.lload X0.here hx rfl (hb hby at_10) rfl kq)
  show Win p e below _ s₁ (mkF mt 12 #[.val (.long a), .second, .val (.long b), .second, .val (.long c), .second, .val (.int f), .val (.long xx), .second, .val (.long yy), .second, .unset, .unset, .unset, .unset, .unset, .unset, .unset, .unset] [(.long c)])
  refine Win.st ?_ (fun tq kq => XS.iconst X0.here hx rfl (hb hby at_12) kq)
  show Win p e below _ s₁ (mkF mt 13 #[.val (.long a), .second, .val (.long b), .second, .val (.long c), .second, .val (.int f), .val (.long xx), .second, .val (.long yy), .second, .unset, .unset, .unset, .unset, .unset, .unset, .unset, .unset] [(.int (3 : Int32)), (.long c)])
  refine Win.st ?_ (fun tq kq => XS.lushr X0.here hx rfl (hb hby at_13) rfl kq)
  show Win p e below _ s₁ (mkF mt 14 #[.val (.long a), .second, .val (.long b), .second, .val (.long c), .second, .val (.int f), .val (.long xx), .second, .val (.long yy), .second, .unset, .unset, .unset, .unset, .unset, .unset, .unset, .unset] [(.long ((c.toUInt64 >>> ((3 : Int32) &&& 0x3f).toInt64.toUInt64).toInt64))])
  obtain ⟨zz, hqzz⟩ : ∃ z, z = ((c.toUInt64 >>> ((3 : Int32) &&& 0x3f).toInt64.toUInt64).toInt64) := ⟨_, rfl⟩
  rw [← hqzz]
  show Win p e below _ s₁ (mkF mt 14 #[.val (.long a), .second, .val (.long b), .second, .val (.long c), .second, .val (.int f), .val (.long xx), .second, .val (.long yy), .second, .unset, .unset, .unset, .unset, .unset, .unset, .unset, .unset] [(.long zz)])
  refine Win.st ?_ (fun tq kq => XS.lstore X0.here hx rfl (hb hby at_14) rfl (l' := #[.val (.long a), .second, .val (.long b), .second, .val (.long c), .second, .val (.int f), .val (.long xx), .second, .val (.long yy), .second, .val (.long zz), .second, .unset, .unset, .unset, .unset, .unset, .unset]) rfl kq)
  show Win p e below _ s₁ (mkF mt 16 #[.val (.long a), .second, .val (.long b), .second, .val (.long c), .second, .val (.int f), .val (.long xx), .second, .val (.long yy), .second, .val (.long zz), .second, .unset, .unset, .unset, .unset, .unset, .unset] [])
  refine Win.st ?_ (fun tq kq => XS.iload X0.here hx rfl (hb hby at_16) rfl kq)
  show Win p e below _ s₁ (mkF mt 18 #[.val (.long a), .second, .val (.long b), .second, .val (.long c), .second, .val (.int f), .val (.long xx), .second, .val (.long yy), .second, .val (.long zz), .second, .unset, .unset, .unset, .unset, .unset, .unset] [(.int f)])
  refine Win.st ?_ (fun tq kq => XS.iconst X0.here hx rfl (hb hby at_18) kq)
  show Win p e below _ s₁ (mkF mt 19 #[.val (.long a), .second, .val (.long b), .second, .val (.long c), .second, .val (.int f), .val (.long xx), .second, .val (.long yy), .second, .val (.long zz), .second, .unset, .unset, .unset, .unset, .unset, .unset] [(.int (3 : Int32)), (.int f)])
  refine Win.st ?_ (fun tq kq => XS.iand X0.here hx rfl (hb hby at_19) rfl kq)
  show Win p e below _ s₁ (mkF mt 20 #[.val (.long a), .second, .val (.long b), .second, .val (.long c), .second, .val (.int f), .val (.long xx), .second, .val (.long yy), .second, .val (.long zz), .second, .unset, .unset, .unset, .unset, .unset, .unset] [(.int (f &&& (3 : Int32)))])
  obtain ⟨kk, hkk⟩ : ∃ z, z = (f &&& (3 : Int32)) := ⟨_, rfl⟩
  have hk : kk = 0 ∨ kk = 1 ∨ kk = 2 ∨ kk = 3 := by rw [hkk]; exact own_and3 _
  rw [← hkk]
  show Win p e below _ s₁ (mkF mt 20 #[.val (.long a), .second, .val (.long b), .second, .val (.long c), .second, .val (.int f), .val (.long xx), .second, .val (.long yy), .second, .val (.long zz), .second, .unset, .unset, .unset, .unset, .unset, .unset] [(.int kk)])
  refine Win.st ?_ (fun tq kq => XS.istore X0.here hx rfl (hb hby at_20) rfl (l' := #[.val (.long a), .second, .val (.long b), .second, .val (.long c), .second, .val (.int f), .val (.long xx), .second, .val (.long yy), .second, .val (.long zz), .second, .val (.int kk), .unset, .unset, .unset, .unset, .unset]) rfl kq)
  show Win p e below _ s₁ (mkF mt 22 #[.val (.long a), .second, .val (.long b), .second, .val (.long c), .second, .val (.int f), .val (.long xx), .second, .val (.long yy), .second, .val (.long zz), .second, .val (.int kk), .unset, .unset, .unset, .unset, .unset] [])
  obtain ⟨T67, h67, X67, e67, E67, A67, D67, -, st67⟩ := newO X0 hx hZ hown (hw _ (List.mem_of_getElem? (i := 0) rfl)) (hw _ (List.mem_of_getElem? (i := 1) rfl)) (hw _ (List.mem_of_getElem? (i := 2) rfl)) e0 (g := (mkF mt 22 #[.val (.long a), .second, .val (.long b), .second, .val (.long c), .second, .val (.int f), .val (.long xx), .second, .val (.long yy), .second, .val (.long zz), .second, .val (.int kk), .unset, .unset, .unset, .unset, .unset] [])) rfl (hb hby at_22) (by decide) (by decide)
  obtain ⟨b67, gq67⟩ : ∃ z, z = h0.size := ⟨_, rfl⟩
  rw [← gq67] at A67 D67 st67
  have g68 : n0 ≤ b67 := own_newle Z0 gq67
  have ke67 := own_kext E67
  replace X67 : Stand p l e _ s mt args below meth cd T67 _ 1 7 := X67
  have Z70 : n0 ≤ h67.size := Nat.le_trans Z0 ke67.1
  have fn67_failures : Fld Z h67 b67 "com/example/interleave/interleave/Tally" "failures" "Ljava/util/Map;" .null := D67 (Or.inr (hw _ (List.mem_of_getElem? (i := 26) rfl))) (ty := (.object "java/util/Map")) (by decide)
  have fn67_committed : Fld Z h67 b67 "com/example/interleave/interleave/Tally" "committed" "J" (.long (0 : Int64)) := D67 (Or.inl (hw _ (List.mem_of_getElem? (i := 33) rfl))) (ty := .long) (by decide)
  have fn67_committedNanos : Fld Z h67 b67 "com/example/interleave/interleave/Tally" "committedNanos" "J" (.long (0 : Int64)) := D67 (Or.inl (hw _ (List.mem_of_getElem? (i := 35) rfl))) (ty := .long) (by decide)
  have fn67_longestNanos : Fld Z h67 b67 "com/example/interleave/interleave/Tally" "longestNanos" "J" (.long (0 : Int64)) := D67 (Or.inl (hw _ (List.mem_of_getElem? (i := 37) rfl))) (ty := .long) (by decide)
  have fn67_started : Fld Z h67 b67 "com/example/interleave/interleave/Tally" "started" "J" (.long (0 : Int64)) := D67 (Or.inl (hw _ (List.mem_of_getElem? (i := 54) rfl))) (ty := .long) (by decide)
  have fn67_retried : Fld Z h67 b67 "com/example/interleave/interleave/Tally" "retried" "J" (.long (0 : Int64)) := D67 (Or.inl (hw _ (List.mem_of_getElem? (i := 61) rfl))) (ty := .long) (by decide)
  have fn67_failed : Fld Z h67 b67 "com/example/interleave/interleave/Tally" "failed" "J" (.long (0 : Int64)) := D67 (Or.inl (hw _ (List.mem_of_getElem? (i := 69) rfl))) (ty := .long) (by decide)
  refine Win.st ?_ st67
  show Win p e below _ T67 (mkF mt 25 #[.val (.long a), .second, .val (.long b), .second, .val (.long c), .second, .val (.int f), .val (.long xx), .second, .val (.long yy), .second, .val (.long zz), .second, .val (.int kk), .unset, .unset, .unset, .unset, .unset] [(.ref b67)])
  refine Win.st ?_ (fun tq kq => XS.dup X67.here hx rfl (hb hby at_25) rfl rfl kq)
  show Win p e below _ T67 (mkF mt 26 #[.val (.long a), .second, .val (.long b), .second, .val (.long c), .second, .val (.int f), .val (.long xx), .second, .val (.long yy), .second, .val (.long zz), .second, .val (.int kk), .unset, .unset, .unset, .unset, .unset] [(.ref b67), (.ref b67)])
  obtain ⟨v71, _, ⟨T71, L71, k71, n71⟩, -, X71, ⟨Lc71, hQ71, l71, y71, z71⟩, st71⟩ := X67.specialBack hx (y := (⟨"com/example/interleave/interleave/Tally", "<init>", "()V"⟩ : MethodName)) rfl hown (mvT hZ (hw _ (List.mem_of_getElem? (i := 3) rfl))) (mvT hZ (hw _ (List.mem_of_getElem? (i := 4) rfl))) (mvT hZ (hw _ (List.mem_of_getElem? (i := 5) rfl))) (by decide) (backOf (W := 1) (rm_tinit l Z a0 hw [] b67 (0 : Int64) (0 : Int64) (0 : Int64) (0 : Int64) (0 : Int64) (0 : Int64) h67 n0 Z70 A67 fn67_started fn67_committed fn67_committedNanos fn67_longestNanos fn67_retried fn67_failed g68 fn67_failures) hZ (hw _ (List.mem_of_getElem? (i := 5) rfl)) (hw _ (List.mem_of_getElem? (i := 2) rfl)) (by decide) (by decide)) (g := (mkF mt 26 #[.val (.long a), .second, .val (.long b), .second, .val (.long c), .second, .val (.int f), .val (.long xx), .second, .val (.long yy), .second, .val (.long zz), .second, .val (.int kk), .unset, .unset, .unset, .unset, .unset] [(.ref b67), (.ref b67)])) rfl (by rw [hml]; rfl) (Steps.refl _) (a := b67) (argsL := []) (rest := [(.ref b67)]) (lenOf pd_0 rfl) rfl (by show 2 * 0 + _ ≤ _; exact Nat.le_of_eq rfl) (hb hby at_26) (fun _ _ => ⟨rfl, e67, (by decide : 1 + 1 ≤ _), (by decide : 7 + 8 ≤ _)⟩)
  dsimp only [Pt.U, Pt.locs, Pt.cells, Pt.slots] at X71 l71 y71 z71 st71 hQ71
  subst y71 z71
  replace X71 : Stand p l e _ s mt args below meth cd T71 L71 2 15 := X71
  obtain ⟨h71, e71⟩ : ∃ z, T71.heap = z := ⟨_, rfl⟩
  rw [e71] at hQ71
  obtain ⟨rfl, Nq71, K71, t71_st, t71_cm, t71_nn, t71_lo, t71_re, t71_fa⟩ := hQ71
  have N71 : Fr n0 L71 := by rw [l71]; exact Fr.app N0 Nq71
  have f72_71 := A67.keep K71
  have Z73 : n0 ≤ h71.size := Nat.le_trans Z70 K71.1
  refine Win.tr ?_ st71
  show Win p e below _ T71 (mkF mt 29 #[.val (.long a), .second, .val (.long b), .second, .val (.long c), .second, .val (.int f), .val (.long xx), .second, .val (.long yy), .second, .val (.long zz), .second, .val (.int kk), .unset, .unset, .unset, .unset, .unset] [(.ref b67)])
  refine Win.st ?_ (fun tq kq => XS.astore X71.here hx rfl (hb hby at_29) rfl rfl (l' := #[.val (.long a), .second, .val (.long b), .second, .val (.long c), .second, .val (.int f), .val (.long xx), .second, .val (.long yy), .second, .val (.long zz), .second, .val (.int kk), .val (.ref b67), .unset, .unset, .unset, .unset]) rfl kq)
  show Win p e below _ T71 (mkF mt 31 #[.val (.long a), .second, .val (.long b), .second, .val (.long c), .second, .val (.int f), .val (.long xx), .second, .val (.long yy), .second, .val (.long zz), .second, .val (.int kk), .val (.ref b67), .unset, .unset, .unset, .unset] [])
  rcases hk with rfl | rfl | rfl | rfl
  · show Win p e below _ T71 (mkF mt 31 #[.val (.long a), .second, .val (.long b), .second, .val (.long c), .second, .val (.int f), .val (.long xx), .second, .val (.long yy), .second, .val (.long zz), .second, .val (.int (0 : Int32)), .val (.ref b67), .unset, .unset, .unset, .unset] [])
    refine Win.st ?_ (fun tq kq => XS.iload X71.here hx rfl (hb hby at_31) rfl kq)
    show Win p e below _ T71 (mkF mt 33 #[.val (.long a), .second, .val (.long b), .second, .val (.long c), .second, .val (.int f), .val (.long xx), .second, .val (.long yy), .second, .val (.long zz), .second, .val (.int (0 : Int32)), .val (.ref b67), .unset, .unset, .unset, .unset] [(.int f)])
    refine Win.st ?_ (fun tq kq => XS.iconst X71.here hx rfl (hb hby at_33) kq)
    show Win p e below _ T71 (mkF mt 34 #[.val (.long a), .second, .val (.long b), .second, .val (.long c), .second, .val (.int f), .val (.long xx), .second, .val (.long yy), .second, .val (.long zz), .second, .val (.int (0 : Int32)), .val (.ref b67), .unset, .unset, .unset, .unset] [(.int (4 : Int32)), (.int f)])
    refine Win.st ?_ (fun tq kq => XS.iand X71.here hx rfl (hb hby at_34) rfl kq)
    show Win p e below _ T71 (mkF mt 35 #[.val (.long a), .second, .val (.long b), .second, .val (.long c), .second, .val (.int f), .val (.long xx), .second, .val (.long yy), .second, .val (.long zz), .second, .val (.int (0 : Int32)), .val (.ref b67), .unset, .unset, .unset, .unset] [(.int (f &&& (4 : Int32)))])
    have js : ∀ (T74 : State) (h74 : Heap) (L74 : List Loc) (st : Int64), Stand p l e room_1 s mt args below meth cd T74 L74 2 15 → T74.heap = h74 → Fr n0 L74 → n0 ≤ h74.size → Exa Z h74 b67 "com/example/interleave/interleave/Tally" → Fld Z h74 b67 "com/example/interleave/interleave/Tally" "started" "J" (.long st) → Fld Z h74 b67 "com/example/interleave/interleave/Tally" "committed" "J" (.long (0 : Int64)) → Fld Z h74 b67 "com/example/interleave/interleave/Tally" "committedNanos" "J" (.long (0 : Int64)) → Fld Z h74 b67 "com/example/interleave/interleave/Tally" "longestNanos" "J" (.long (0 : Int64)) → Fld Z h74 b67 "com/example/interleave/interleave/Tally" "retried" "J" (.long (0 : Int64)) → Fld Z h74 b67 "com/example/interleave/interleave/Tally" "failed" "J" (.long (0 : Int64)) → Win p e below (Ends s (Q_law Z a b c f h0 n0) 2 15) T74 (mkF mt 43 #[.val (.long a), .second, .val (.long b), .second, .val (.long c), .second, .val (.int f), .val (.long xx), .second, .val (.long yy), .second, .val (.long zz), .second, .val (.int (0 : Int32)), .val (.ref b67), .unset, .unset, .unset, .unset] []) := by
      intro T74 h74 L74 st X74 e74 N74 Z74 f74_0 f74_1 f74_2 f74_3 f74_4 f74_5 f74_6
      refine Win.st ?_ (fun tq kq => XS.iload X74.here hx rfl (hb hby at_43) rfl kq)
      show Win p e below _ T74 (mkF mt 45 #[.val (.long a), .second, .val (.long b), .second, .val (.long c), .second, .val (.int f), .val (.long xx), .second, .val (.long yy), .second, .val (.long zz), .second, .val (.int (0 : Int32)), .val (.ref b67), .unset, .unset, .unset, .unset] [(.int (0 : Int32))])
      refine Win.st ?_ (fun tq kq => XS.iconst X74.here hx rfl (hb hby at_45) kq)
      show Win p e below _ T74 (mkF mt 46 #[.val (.long a), .second, .val (.long b), .second, .val (.long c), .second, .val (.int f), .val (.long xx), .second, .val (.long yy), .second, .val (.long zz), .second, .val (.int (0 : Int32)), .val (.ref b67), .unset, .unset, .unset, .unset] [(.int (1 : Int32)), (.int (0 : Int32))])
      refine Win.st ?_ (fun tq kq => XS.icmpYes X74.here hx rfl (pc0 := 46) (pc' := 56) rfl (hb hby at_46) rfl (tlt (by decide : (0 : Int32) < (1 : Int32))).1 (by decide) (by decide) kq)
      show Win p e below _ T74 (mkF mt 56 #[.val (.long a), .second, .val (.long b), .second, .val (.long c), .second, .val (.int f), .val (.long xx), .second, .val (.long yy), .second, .val (.long zz), .second, .val (.int (0 : Int32)), .val (.ref b67), .unset, .unset, .unset, .unset] [])
      refine Win.st ?_ (fun tq kq => XS.iload X74.here hx rfl (hb hby at_56) rfl kq)
      show Win p e below _ T74 (mkF mt 58 #[.val (.long a), .second, .val (.long b), .second, .val (.long c), .second, .val (.int f), .val (.long xx), .second, .val (.long yy), .second, .val (.long zz), .second, .val (.int (0 : Int32)), .val (.ref b67), .unset, .unset, .unset, .unset] [(.int f)])
      refine Win.st ?_ (fun tq kq => XS.bipush X74.here hx rfl (hb hby at_58) kq)
      show Win p e below _ T74 (mkF mt 60 #[.val (.long a), .second, .val (.long b), .second, .val (.long c), .second, .val (.int f), .val (.long xx), .second, .val (.long yy), .second, .val (.long zz), .second, .val (.int (0 : Int32)), .val (.ref b67), .unset, .unset, .unset, .unset] [(.int (8 : Int32)), (.int f)])
      refine Win.st ?_ (fun tq kq => XS.iand X74.here hx rfl (hb hby at_60) rfl kq)
      show Win p e below _ T74 (mkF mt 61 #[.val (.long a), .second, .val (.long b), .second, .val (.long c), .second, .val (.int f), .val (.long xx), .second, .val (.long yy), .second, .val (.long zz), .second, .val (.int (0 : Int32)), .val (.ref b67), .unset, .unset, .unset, .unset] [(.int (f &&& (8 : Int32)))])
      have jf : ∀ (T75 : State) (h75 : Heap) (L75 : List Loc) (fa : Int64), Stand p l e room_1 s mt args below meth cd T75 L75 2 15 → T75.heap = h75 → Fr n0 L75 → n0 ≤ h75.size → Exa Z h75 b67 "com/example/interleave/interleave/Tally" → Fld Z h75 b67 "com/example/interleave/interleave/Tally" "started" "J" (.long st) → Fld Z h75 b67 "com/example/interleave/interleave/Tally" "committed" "J" (.long (0 : Int64)) → Fld Z h75 b67 "com/example/interleave/interleave/Tally" "committedNanos" "J" (.long (0 : Int64)) → Fld Z h75 b67 "com/example/interleave/interleave/Tally" "longestNanos" "J" (.long (0 : Int64)) → Fld Z h75 b67 "com/example/interleave/interleave/Tally" "retried" "J" (.long (0 : Int64)) → Fld Z h75 b67 "com/example/interleave/interleave/Tally" "failed" "J" (.long fa) → Win p e below (Ends s (Q_law Z a b c f h0 n0) 2 15) T75 (mkF mt 69 #[.val (.long a), .second, .val (.long b), .second, .val (.long c), .second, .val (.int f), .val (.long xx), .second, .val (.long yy), .second, .val (.long zz), .second, .val (.int (0 : Int32)), .val (.ref b67), .unset, .unset, .unset, .unset] []) := by
        intro T75 h75 L75 fa X75 e75 N75 Z75 f75_0 f75_1 f75_2 f75_3 f75_4 f75_5 f75_6
        refine Win.st ?_ (fun tq kq => XS.iload X75.here hx rfl (hb hby at_69) rfl kq)
        show Win p e below _ T75 (mkF mt 71 #[.val (.long a), .second, .val (.long b), .second, .val (.long c), .second, .val (.int f), .val (.long xx), .second, .val (.long yy), .second, .val (.long zz), .second, .val (.int (0 : Int32)), .val (.ref b67), .unset, .unset, .unset, .unset] [(.int (0 : Int32))])
        refine Win.st ?_ (fun tq kq => XS.iconst X75.here hx rfl (hb hby at_71) kq)
        show Win p e below _ T75 (mkF mt 72 #[.val (.long a), .second, .val (.long b), .second, .val (.long c), .second, .val (.int f), .val (.long xx), .second, .val (.long yy), .second, .val (.long zz), .second, .val (.int (0 : Int32)), .val (.ref b67), .unset, .unset, .unset, .unset] [(.int (2 : Int32)), (.int (0 : Int32))])
        refine Win.st ?_ (fun tq kq => XS.icmpYes X75.here hx rfl (pc0 := 72) (pc' := 82) rfl (hb hby at_72) rfl (tlt (by decide : (0 : Int32) < (2 : Int32))).1 (by decide) (by decide) kq)
        show Win p e below _ T75 (mkF mt 82 #[.val (.long a), .second, .val (.long b), .second, .val (.long c), .second, .val (.int f), .val (.long xx), .second, .val (.long yy), .second, .val (.long zz), .second, .val (.int (0 : Int32)), .val (.ref b67), .unset, .unset, .unset, .unset] [])
        refine Win.st ?_ (fun tq kq => XS.iload X75.here hx rfl (hb hby at_82) rfl kq)
        show Win p e below _ T75 (mkF mt 84 #[.val (.long a), .second, .val (.long b), .second, .val (.long c), .second, .val (.int f), .val (.long xx), .second, .val (.long yy), .second, .val (.long zz), .second, .val (.int (0 : Int32)), .val (.ref b67), .unset, .unset, .unset, .unset] [(.int f)])
        refine Win.st ?_ (fun tq kq => XS.bipush X75.here hx rfl (hb hby at_84) kq)
        show Win p e below _ T75 (mkF mt 86 #[.val (.long a), .second, .val (.long b), .second, .val (.long c), .second, .val (.int f), .val (.long xx), .second, .val (.long yy), .second, .val (.long zz), .second, .val (.int (0 : Int32)), .val (.ref b67), .unset, .unset, .unset, .unset] [(.int (16 : Int32)), (.int f)])
        refine Win.st ?_ (fun tq kq => XS.iand X75.here hx rfl (hb hby at_86) rfl kq)
        show Win p e below _ T75 (mkF mt 87 #[.val (.long a), .second, .val (.long b), .second, .val (.long c), .second, .val (.int f), .val (.long xx), .second, .val (.long yy), .second, .val (.long zz), .second, .val (.int (0 : Int32)), .val (.ref b67), .unset, .unset, .unset, .unset] [(.int (f &&& (16 : Int32)))])
        have jr : ∀ (T76 : State) (h76 : Heap) (L76 : List Loc) (re : Int64), Stand p l e room_1 s mt args below meth cd T76 L76 2 15 → T76.heap = h76 → Fr n0 L76 → n0 ≤ h76.size → Exa Z h76 b67 "com/example/interleave/interleave/Tally" → Fld Z h76 b67 "com/example/interleave/interleave/Tally" "started" "J" (.long st) → Fld Z h76 b67 "com/example/interleave/interleave/Tally" "committed" "J" (.long (0 : Int64)) → Fld Z h76 b67 "com/example/interleave/interleave/Tally" "committedNanos" "J" (.long (0 : Int64)) → Fld Z h76 b67 "com/example/interleave/interleave/Tally" "longestNanos" "J" (.long (0 : Int64)) → Fld Z h76 b67 "com/example/interleave/interleave/Tally" "retried" "J" (.long re) → Fld Z h76 b67 "com/example/interleave/interleave/Tally" "failed" "J" (.long fa) → Win p e below (Ends s (Q_law Z a b c f h0 n0) 2 15) T76 (mkF mt 95 #[.val (.long a), .second, .val (.long b), .second, .val (.long c), .second, .val (.int f), .val (.long xx), .second, .val (.long yy), .second, .val (.long zz), .second, .val (.int (0 : Int32)), .val (.ref b67), .unset, .unset, .unset, .unset] []) := by
          intro T76 h76 L76 re X76 e76 N76 Z76 f76_0 f76_1 f76_2 f76_3 f76_4 f76_5 f76_6
          refine Win.st ?_ (fun tq kq => XS.iload X76.here hx rfl (hb hby at_95) rfl kq)
          show Win p e below _ T76 (mkF mt 97 #[.val (.long a), .second, .val (.long b), .second, .val (.long c), .second, .val (.int f), .val (.long xx), .second, .val (.long yy), .second, .val (.long zz), .second, .val (.int (0 : Int32)), .val (.ref b67), .unset, .unset, .unset, .unset] [(.int (0 : Int32))])
          refine Win.st ?_ (fun tq kq => XS.iconst X76.here hx rfl (hb hby at_97) kq)
          show Win p e below _ T76 (mkF mt 98 #[.val (.long a), .second, .val (.long b), .second, .val (.long c), .second, .val (.int f), .val (.long xx), .second, .val (.long yy), .second, .val (.long zz), .second, .val (.int (0 : Int32)), .val (.ref b67), .unset, .unset, .unset, .unset] [(.int (3 : Int32)), (.int (0 : Int32))])
          refine Win.st ?_ (fun tq kq => XS.icmpYes X76.here hx rfl (pc0 := 98) (pc' := 108) rfl (hb hby at_98) rfl (tlt (by decide : (0 : Int32) < (3 : Int32))).1 (by decide) (by decide) kq)
          show Win p e below _ T76 (mkF mt 108 #[.val (.long a), .second, .val (.long b), .second, .val (.long c), .second, .val (.int f), .val (.long xx), .second, .val (.long yy), .second, .val (.long zz), .second, .val (.int (0 : Int32)), .val (.ref b67), .unset, .unset, .unset, .unset] [])
          refine Win.st ?_ (fun tq kq => XS.aload X76.here hx rfl (hb hby at_108) rfl rfl kq)
          show Win p e below _ T76 (mkF mt 110 #[.val (.long a), .second, .val (.long b), .second, .val (.long c), .second, .val (.int f), .val (.long xx), .second, .val (.long yy), .second, .val (.long zz), .second, .val (.int (0 : Int32)), .val (.ref b67), .unset, .unset, .unset, .unset] [(.ref b67)])
          obtain ⟨cq77, kq77, q77a, q77b, q77c⟩ := isOf hZ e76 f76_0
          obtain ⟨v77, _, ⟨T77, L77, k77, n77⟩, -, X77, ⟨Lc77, hQ77, l77, y77, z77⟩, st77⟩ := X76.virtualBack hx (y := (⟨"com/example/interleave/interleave/Tally", "averageNanos", "()J"⟩ : MethodName)) (z := (⟨"com/example/interleave/interleave/Tally", "averageNanos", "()J"⟩ : MethodName)) hown (mvT hZ (hw _ (List.mem_of_getElem? (i := 42) rfl))) (mvT hZ (hw _ (List.mem_of_getElem? (i := 43) rfl))) (notFace_of_selects (args := #[]) (mvT hZ (hw _ (List.mem_of_getElem? (i := 45) rfl)))) (mvT hZ (hw _ (List.mem_of_getElem? (i := 45) rfl))) (mvT hZ (hw _ (List.mem_of_getElem? (i := 44) rfl))) (by decide) (backOf (W := 0) (rm_tavg l Z a0 hw [] b67 (0 : Int64) (0 : Int64) h76 n0 Z76 f76_2 f76_3) hZ (hw _ (List.mem_of_getElem? (i := 46) rfl)) (hw _ (List.mem_of_getElem? (i := 2) rfl)) (by decide) (by decide)) q77a q77c (g := (mkF mt 110 #[.val (.long a), .second, .val (.long b), .second, .val (.long c), .second, .val (.int f), .val (.long xx), .second, .val (.long yy), .second, .val (.long zz), .second, .val (.int (0 : Int32)), .val (.ref b67), .unset, .unset, .unset, .unset] [(.ref b67)])) rfl (by rw [hml]; rfl) (Steps.refl _) (argsL := []) (rest := []) (lenOf pd_2 rfl) rfl (by show 2 * 0 + _ ≤ _; exact Nat.le_of_eq rfl) (hb hby at_110) (fun _ _ => ⟨rfl, e76, (by decide : 2 + 0 ≤ _), (by decide : 15 + 0 ≤ _)⟩)
          dsimp only [Pt.U, Pt.locs, Pt.cells, Pt.slots] at X77 l77 y77 z77 st77 hQ77
          subst y77 z77
          replace X77 : Stand p l e _ s mt args below meth cd T77 L77 2 15 := X77
          obtain ⟨h77, e77⟩ : ∃ z, T77.heap = z := ⟨_, rfl⟩
          rw [e77] at hQ77
          obtain ⟨rfl, Nq77, eh77⟩ := hQ77
          have N77 : Fr n0 L77 := by rw [l77]; exact Fr.app N76 Nq77
          rw [eh77] at e77
          refine Win.tr ?_ st77
          show Win p e below _ T77 (mkF mt 113 #[.val (.long a), .second, .val (.long b), .second, .val (.long c), .second, .val (.int f), .val (.long xx), .second, .val (.long yy), .second, .val (.long zz), .second, .val (.int (0 : Int32)), .val (.ref b67), .unset, .unset, .unset, .unset] [(.long (own_avg (0 : Int64) (0 : Int64)))])
          refine Win.st ?_ (fun tq kq => XS.lstore X77.here hx rfl (hb hby at_113) rfl (l' := #[.val (.long a), .second, .val (.long b), .second, .val (.long c), .second, .val (.int f), .val (.long xx), .second, .val (.long yy), .second, .val (.long zz), .second, .val (.int (0 : Int32)), .val (.ref b67), .val (.long (own_avg (0 : Int64) (0 : Int64))), .second, .unset, .unset]) rfl kq)
          show Win p e below _ T77 (mkF mt 115 #[.val (.long a), .second, .val (.long b), .second, .val (.long c), .second, .val (.int f), .val (.long xx), .second, .val (.long yy), .second, .val (.long zz), .second, .val (.int (0 : Int32)), .val (.ref b67), .val (.long (own_avg (0 : Int64) (0 : Int64))), .second, .unset, .unset] [])
          refine Win.st ?_ (fun tq kq => XS.iload X77.here hx rfl (hb hby at_115) rfl kq)
          show Win p e below _ T77 (mkF mt 117 #[.val (.long a), .second, .val (.long b), .second, .val (.long c), .second, .val (.int f), .val (.long xx), .second, .val (.long yy), .second, .val (.long zz), .second, .val (.int (0 : Int32)), .val (.ref b67), .val (.long (own_avg (0 : Int64) (0 : Int64))), .second, .unset, .unset] [(.int (0 : Int32))])
          refine Win.st ?_ (fun tq kq => XS.ifNo X77.here hx rfl (hb hby at_117) rfl ((if0 _ _).trans (teq (rfl : (0 : Int32) = (0 : Int32))).2) kq)
          show Win p e below _ T77 (mkF mt 120 #[.val (.long a), .second, .val (.long b), .second, .val (.long c), .second, .val (.int f), .val (.long xx), .second, .val (.long yy), .second, .val (.long zz), .second, .val (.int (0 : Int32)), .val (.ref b67), .val (.long (own_avg (0 : Int64) (0 : Int64))), .second, .unset, .unset] [])
          refine Win.st ?_ (fun tq kq => XS.lconst X77.here hx rfl (hb hby at_120) kq)
          show Win p e below _ T77 (mkF mt 121 #[.val (.long a), .second, .val (.long b), .second, .val (.long c), .second, .val (.int f), .val (.long xx), .second, .val (.long yy), .second, .val (.long zz), .second, .val (.int (0 : Int32)), .val (.ref b67), .val (.long (own_avg (0 : Int64) (0 : Int64))), .second, .unset, .unset] [(.long (0 : Int64))])
          refine Win.st ?_ (fun tq kq => XS.lstore X77.here hx rfl (hb hby at_121) rfl (l' := #[.val (.long a), .second, .val (.long b), .second, .val (.long c), .second, .val (.int f), .val (.long xx), .second, .val (.long yy), .second, .val (.long zz), .second, .val (.int (0 : Int32)), .val (.ref b67), .val (.long (own_avg (0 : Int64) (0 : Int64))), .second, .val (.long (0 : Int64)), .second]) rfl kq)
          show Win p e below _ T77 (mkF mt 123 #[.val (.long a), .second, .val (.long b), .second, .val (.long c), .second, .val (.int f), .val (.long xx), .second, .val (.long yy), .second, .val (.long zz), .second, .val (.int (0 : Int32)), .val (.ref b67), .val (.long (own_avg (0 : Int64) (0 : Int64))), .second, .val (.long (0 : Int64)), .second] [])
          refine Win.st ?_ (fun tq kq => XS.goto X77.here hx rfl (pc0 := 123) (pc' := 173) rfl (hb hby at_123) (by decide) (by decide) kq)
          show Win p e below _ T77 (mkF mt 173 #[.val (.long a), .second, .val (.long b), .second, .val (.long c), .second, .val (.int f), .val (.long xx), .second, .val (.long yy), .second, .val (.long zz), .second, .val (.int (0 : Int32)), .val (.ref b67), .val (.long (own_avg (0 : Int64) (0 : Int64))), .second, .val (.long (0 : Int64)), .second] [])
          refine Win.st ?_ (fun tq kq => XS.lload X77.here hx rfl (hb hby at_173) rfl kq)
          show Win p e below _ T77 (mkF mt 175 #[.val (.long a), .second, .val (.long b), .second, .val (.long c), .second, .val (.int f), .val (.long xx), .second, .val (.long yy), .second, .val (.long zz), .second, .val (.int (0 : Int32)), .val (.ref b67), .val (.long (own_avg (0 : Int64) (0 : Int64))), .second, .val (.long (0 : Int64)), .second] [(.long (own_avg (0 : Int64) (0 : Int64)))])
          refine Win.st ?_ (fun tq kq => XS.lload X77.here hx rfl (hb hby at_175) rfl kq)
          show Win p e below _ T77 (mkF mt 177 #[.val (.long a), .second, .val (.long b), .second, .val (.long c), .second, .val (.int f), .val (.long xx), .second, .val (.long yy), .second, .val (.long zz), .second, .val (.int (0 : Int32)), .val (.ref b67), .val (.long (own_avg (0 : Int64) (0 : Int64))), .second, .val (.long (0 : Int64)), .second] [(.long (0 : Int64)), (.long (own_avg (0 : Int64) (0 : Int64)))])
          refine Win.st ?_ (fun tq kq => XS.lcmp X77.here hx rfl (hb hby at_177) rfl kq)
          show Win p e below _ T77 (mkF mt 178 #[.val (.long a), .second, .val (.long b), .second, .val (.long c), .second, .val (.int f), .val (.long xx), .second, .val (.long yy), .second, .val (.long zz), .second, .val (.int (0 : Int32)), .val (.ref b67), .val (.long (own_avg (0 : Int64) (0 : Int64))), .second, .val (.long (0 : Int64)), .second] [(.int (lcmpW (own_avg (0 : Int64) (0 : Int64)) (0 : Int64)))])
          refine Win.st ?_ (fun tq kq => XS.ifNo X77.here hx rfl (hb hby at_178) rfl ((if0 _ _).trans (teq ((lw_eq _ _).mpr (by decide))).2) kq)
          show Win p e below _ T77 (mkF mt 181 #[.val (.long a), .second, .val (.long b), .second, .val (.long c), .second, .val (.int f), .val (.long xx), .second, .val (.long yy), .second, .val (.long zz), .second, .val (.int (0 : Int32)), .val (.ref b67), .val (.long (own_avg (0 : Int64) (0 : Int64))), .second, .val (.long (0 : Int64)), .second] [])
          refine Win.st ?_ (fun tq kq => XS.iconst X77.here hx rfl (hb hby at_181) kq)
          show Win p e below _ T77 (mkF mt 182 #[.val (.long a), .second, .val (.long b), .second, .val (.long c), .second, .val (.int f), .val (.long xx), .second, .val (.long yy), .second, .val (.long zz), .second, .val (.int (0 : Int32)), .val (.ref b67), .val (.long (own_avg (0 : Int64) (0 : Int64))), .second, .val (.long (0 : Int64)), .second] [(.int (1 : Int32))])
          refine Win.st ?_ (fun tq kq => XS.goto X77.here hx rfl (pc0 := 182) (pc' := 186) rfl (hb hby at_182) (by decide) (by decide) kq)
          show Win p e below _ T77 (mkF mt 186 #[.val (.long a), .second, .val (.long b), .second, .val (.long c), .second, .val (.int f), .val (.long xx), .second, .val (.long yy), .second, .val (.long zz), .second, .val (.int (0 : Int32)), .val (.ref b67), .val (.long (own_avg (0 : Int64) (0 : Int64))), .second, .val (.long (0 : Int64)), .second] [(.int (1 : Int32))])
          exact Win.retN X77 hx hlk e77 (t := .boolean) (z' := (1 : Int32)) hrt (by simp) (hb hby at_186) (by decide) (by decide) rfl ⟨rfl, N77⟩
        by_cases hc87 : (f &&& (16 : Int32)) = (0 : Int32)
        · refine Win.st ?_ (fun tq kq => XS.ifYes X75.here hx rfl (pc0 := 87) (pc' := 95) rfl (hb hby at_87) rfl ((if0 _ _).trans (teq hc87).1) (by decide) (by decide) kq)
          show Win p e below _ T75 (mkF mt 95 #[.val (.long a), .second, .val (.long b), .second, .val (.long c), .second, .val (.int f), .val (.long xx), .second, .val (.long yy), .second, .val (.long zz), .second, .val (.int (0 : Int32)), .val (.ref b67), .unset, .unset, .unset, .unset] [])
          exact jr T75 h75 _ ((0 : Int64)) X75 e75 N75 Z75 f75_0 f75_1 f75_2 f75_3 f75_4 f75_5 f75_6
        · refine Win.st ?_ (fun tq kq => XS.ifNo X75.here hx rfl (hb hby at_87) rfl ((if0 _ _).trans (feq hc87).1) kq)
          show Win p e below _ T75 (mkF mt 90 #[.val (.long a), .second, .val (.long b), .second, .val (.long c), .second, .val (.int f), .val (.long xx), .second, .val (.long yy), .second, .val (.long zz), .second, .val (.int (0 : Int32)), .val (.ref b67), .unset, .unset, .unset, .unset] [])
          refine Win.st ?_ (fun tq kq => XS.aload X75.here hx rfl (hb hby at_90) rfl rfl kq)
          show Win p e below _ T75 (mkF mt 92 #[.val (.long a), .second, .val (.long b), .second, .val (.long c), .second, .val (.int f), .val (.long xx), .second, .val (.long yy), .second, .val (.long zz), .second, .val (.int (0 : Int32)), .val (.ref b67), .unset, .unset, .unset, .unset] [(.ref b67)])
          obtain ⟨cq78, kq78, q78a, q78b, q78c⟩ := isOf hZ e75 f75_0
          obtain ⟨v78, _, ⟨T78, L78, k78, n78⟩, -, X78, ⟨Lc78, hQ78, l78, y78, z78⟩, st78⟩ := X75.virtualBack hx (y := (⟨"com/example/interleave/interleave/Tally", "retry", "()V"⟩ : MethodName)) (z := (⟨"com/example/interleave/interleave/Tally", "retry", "()V"⟩ : MethodName)) hown (mvT hZ (hw _ (List.mem_of_getElem? (i := 55) rfl))) (mvT hZ (hw _ (List.mem_of_getElem? (i := 56) rfl))) (notFace_of_selects (args := #[]) (mvT hZ (hw _ (List.mem_of_getElem? (i := 58) rfl)))) (mvT hZ (hw _ (List.mem_of_getElem? (i := 58) rfl))) (mvT hZ (hw _ (List.mem_of_getElem? (i := 57) rfl))) (by decide) (backOf (W := 0) (rm_tretry l Z a0 hw [] b67 st (0 : Int64) (0 : Int64) (0 : Int64) (0 : Int64) fa h75 n0 Z75 f75_0 f75_1 f75_2 f75_3 f75_4 f75_5 f75_6 g68) hZ (hw _ (List.mem_of_getElem? (i := 59) rfl)) (hw _ (List.mem_of_getElem? (i := 2) rfl)) (by decide) (by decide)) q78a q78c (g := (mkF mt 92 #[.val (.long a), .second, .val (.long b), .second, .val (.long c), .second, .val (.int f), .val (.long xx), .second, .val (.long yy), .second, .val (.long zz), .second, .val (.int (0 : Int32)), .val (.ref b67), .unset, .unset, .unset, .unset] [(.ref b67)])) rfl (by rw [hml]; rfl) (Steps.refl _) (argsL := []) (rest := []) (lenOf pd_0 rfl) rfl (by show 2 * 0 + _ ≤ _; exact Nat.le_of_eq rfl) (hb hby at_92) (fun _ _ => ⟨rfl, e75, (by decide : 2 + 0 ≤ _), (by decide : 15 + 0 ≤ _)⟩)
          dsimp only [Pt.U, Pt.locs, Pt.cells, Pt.slots] at X78 l78 y78 z78 st78 hQ78
          subst y78 z78
          replace X78 : Stand p l e _ s mt args below meth cd T78 L78 2 15 := X78
          obtain ⟨h78, e78⟩ : ∃ z, T78.heap = z := ⟨_, rfl⟩
          rw [e78] at hQ78
          obtain ⟨rfl, Nq78, K78, t78_st, t78_cm, t78_nn, t78_lo, t78_re, t78_fa⟩ := hQ78
          have N78 : Fr n0 L78 := by rw [l78]; exact Fr.app N75 Nq78
          have f79_177 := f75_0.keep K78
          have Z80 : n0 ≤ h78.size := Nat.le_trans Z75 K78.1
          refine Win.tr ?_ st78
          show Win p e below _ T78 (mkF mt 95 #[.val (.long a), .second, .val (.long b), .second, .val (.long c), .second, .val (.int f), .val (.long xx), .second, .val (.long yy), .second, .val (.long zz), .second, .val (.int (0 : Int32)), .val (.ref b67), .unset, .unset, .unset, .unset] [])
          exact jr T78 h78 _ (((0 : Int64) + (1 : Int64))) X78 e78 N78 Z80 f79_177 t78_st t78_cm t78_nn t78_lo t78_re t78_fa
      by_cases hc61 : (f &&& (8 : Int32)) = (0 : Int32)
      · refine Win.st ?_ (fun tq kq => XS.ifYes X74.here hx rfl (pc0 := 61) (pc' := 69) rfl (hb hby at_61) rfl ((if0 _ _).trans (teq hc61).1) (by decide) (by decide) kq)
        show Win p e below _ T74 (mkF mt 69 #[.val (.long a), .second, .val (.long b), .second, .val (.long c), .second, .val (.int f), .val (.long xx), .second, .val (.long yy), .second, .val (.long zz), .second, .val (.int (0 : Int32)), .val (.ref b67), .unset, .unset, .unset, .unset] [])
        exact jf T74 h74 _ ((0 : Int64)) X74 e74 N74 Z74 f74_0 f74_1 f74_2 f74_3 f74_4 f74_5 f74_6
      · refine Win.st ?_ (fun tq kq => XS.ifNo X74.here hx rfl (hb hby at_61) rfl ((if0 _ _).trans (feq hc61).1) kq)
        show Win p e below _ T74 (mkF mt 64 #[.val (.long a), .second, .val (.long b), .second, .val (.long c), .second, .val (.int f), .val (.long xx), .second, .val (.long yy), .second, .val (.long zz), .second, .val (.int (0 : Int32)), .val (.ref b67), .unset, .unset, .unset, .unset] [])
        refine Win.st ?_ (fun tq kq => XS.aload X74.here hx rfl (hb hby at_64) rfl rfl kq)
        show Win p e below _ T74 (mkF mt 66 #[.val (.long a), .second, .val (.long b), .second, .val (.long c), .second, .val (.int f), .val (.long xx), .second, .val (.long yy), .second, .val (.long zz), .second, .val (.int (0 : Int32)), .val (.ref b67), .unset, .unset, .unset, .unset] [(.ref b67)])
        obtain ⟨cq81, kq81, q81a, q81b, q81c⟩ := isOf hZ e74 f74_0
        obtain ⟨v81, _, ⟨T81, L81, k81, n81⟩, -, X81, ⟨Lc81, hQ81, l81, y81, z81⟩, st81⟩ := X74.virtualBack hx (y := (⟨"com/example/interleave/interleave/Tally", "fail", "()V"⟩ : MethodName)) (z := (⟨"com/example/interleave/interleave/Tally", "fail", "()V"⟩ : MethodName)) hown (mvT hZ (hw _ (List.mem_of_getElem? (i := 63) rfl))) (mvT hZ (hw _ (List.mem_of_getElem? (i := 64) rfl))) (notFace_of_selects (args := #[]) (mvT hZ (hw _ (List.mem_of_getElem? (i := 66) rfl)))) (mvT hZ (hw _ (List.mem_of_getElem? (i := 66) rfl))) (mvT hZ (hw _ (List.mem_of_getElem? (i := 65) rfl))) (by decide) (backOf (W := 0) (rm_tfail l Z a0 hw [] b67 st (0 : Int64) (0 : Int64) (0 : Int64) (0 : Int64) (0 : Int64) h74 n0 Z74 f74_0 f74_1 f74_2 f74_3 f74_4 f74_5 f74_6 g68) hZ (hw _ (List.mem_of_getElem? (i := 67) rfl)) (hw _ (List.mem_of_getElem? (i := 2) rfl)) (by decide) (by decide)) q81a q81c (g := (mkF mt 66 #[.val (.long a), .second, .val (.long b), .second, .val (.long c), .second, .val (.int f), .val (.long xx), .second, .val (.long yy), .second, .val (.long zz), .second, .val (.int (0 : Int32)), .val (.ref b67), .unset, .unset, .unset, .unset] [(.ref b67)])) rfl (by rw [hml]; rfl) (Steps.refl _) (argsL := []) (rest := []) (lenOf pd_0 rfl) rfl (by show 2 * 0 + _ ≤ _; exact Nat.le_of_eq rfl) (hb hby at_66) (fun _ _ => ⟨rfl, e74, (by decide : 2 + 0 ≤ _), (by decide : 15 + 0 ≤ _)⟩)
        dsimp only [Pt.U, Pt.locs, Pt.cells, Pt.slots] at X81 l81 y81 z81 st81 hQ81
        subst y81 z81
        replace X81 : Stand p l e _ s mt args below meth cd T81 L81 2 15 := X81
        obtain ⟨h81, e81⟩ : ∃ z, T81.heap = z := ⟨_, rfl⟩
        rw [e81] at hQ81
        obtain ⟨rfl, Nq81, K81, t81_st, t81_cm, t81_nn, t81_lo, t81_re, t81_fa⟩ := hQ81
        have N81 : Fr n0 L81 := by rw [l81]; exact Fr.app N74 Nq81
        have f82_199 := f74_0.keep K81
        have Z83 : n0 ≤ h81.size := Nat.le_trans Z74 K81.1
        refine Win.tr ?_ st81
        show Win p e below _ T81 (mkF mt 69 #[.val (.long a), .second, .val (.long b), .second, .val (.long c), .second, .val (.int f), .val (.long xx), .second, .val (.long yy), .second, .val (.long zz), .second, .val (.int (0 : Int32)), .val (.ref b67), .unset, .unset, .unset, .unset] [])
        exact jf T81 h81 _ (((0 : Int64) + (1 : Int64))) X81 e81 N81 Z83 f82_199 t81_st t81_cm t81_nn t81_lo t81_re t81_fa
    by_cases hc35 : (f &&& (4 : Int32)) = (0 : Int32)
    · refine Win.st ?_ (fun tq kq => XS.ifYes X71.here hx rfl (pc0 := 35) (pc' := 43) rfl (hb hby at_35) rfl ((if0 _ _).trans (teq hc35).1) (by decide) (by decide) kq)
      show Win p e below _ T71 (mkF mt 43 #[.val (.long a), .second, .val (.long b), .second, .val (.long c), .second, .val (.int f), .val (.long xx), .second, .val (.long yy), .second, .val (.long zz), .second, .val (.int (0 : Int32)), .val (.ref b67), .unset, .unset, .unset, .unset] [])
      exact js T71 h71 _ ((0 : Int64)) X71 e71 N71 Z73 f72_71 t71_st t71_cm t71_nn t71_lo t71_re t71_fa
    · refine Win.st ?_ (fun tq kq => XS.ifNo X71.here hx rfl (hb hby at_35) rfl ((if0 _ _).trans (feq hc35).1) kq)
      show Win p e below _ T71 (mkF mt 38 #[.val (.long a), .second, .val (.long b), .second, .val (.long c), .second, .val (.int f), .val (.long xx), .second, .val (.long yy), .second, .val (.long zz), .second, .val (.int (0 : Int32)), .val (.ref b67), .unset, .unset, .unset, .unset] [])
      refine Win.st ?_ (fun tq kq => XS.aload X71.here hx rfl (hb hby at_38) rfl rfl kq)
      show Win p e below _ T71 (mkF mt 40 #[.val (.long a), .second, .val (.long b), .second, .val (.long c), .second, .val (.int f), .val (.long xx), .second, .val (.long yy), .second, .val (.long zz), .second, .val (.int (0 : Int32)), .val (.ref b67), .unset, .unset, .unset, .unset] [(.ref b67)])
      obtain ⟨cq84, kq84, q84a, q84b, q84c⟩ := isOf hZ e71 f72_71
      obtain ⟨v84, _, ⟨T84, L84, k84, n84⟩, -, X84, ⟨Lc84, hQ84, l84, y84, z84⟩, st84⟩ := X71.virtualBack hx (y := (⟨"com/example/interleave/interleave/Tally", "start", "()V"⟩ : MethodName)) (z := (⟨"com/example/interleave/interleave/Tally", "start", "()V"⟩ : MethodName)) hown (mvT hZ (hw _ (List.mem_of_getElem? (i := 48) rfl))) (mvT hZ (hw _ (List.mem_of_getElem? (i := 49) rfl))) (notFace_of_selects (args := #[]) (mvT hZ (hw _ (List.mem_of_getElem? (i := 51) rfl)))) (mvT hZ (hw _ (List.mem_of_getElem? (i := 51) rfl))) (mvT hZ (hw _ (List.mem_of_getElem? (i := 50) rfl))) (by decide) (backOf (W := 0) (rm_tstart l Z a0 hw [] b67 (0 : Int64) (0 : Int64) (0 : Int64) (0 : Int64) (0 : Int64) (0 : Int64) h71 n0 Z73 f72_71 t71_st t71_cm t71_nn t71_lo t71_re t71_fa g68) hZ (hw _ (List.mem_of_getElem? (i := 52) rfl)) (hw _ (List.mem_of_getElem? (i := 2) rfl)) (by decide) (by decide)) q84a q84c (g := (mkF mt 40 #[.val (.long a), .second, .val (.long b), .second, .val (.long c), .second, .val (.int f), .val (.long xx), .second, .val (.long yy), .second, .val (.long zz), .second, .val (.int (0 : Int32)), .val (.ref b67), .unset, .unset, .unset, .unset] [(.ref b67)])) rfl (by rw [hml]; rfl) (Steps.refl _) (argsL := []) (rest := []) (lenOf pd_0 rfl) rfl (by show 2 * 0 + _ ≤ _; exact Nat.le_of_eq rfl) (hb hby at_40) (fun _ _ => ⟨rfl, e71, (by decide : 2 + 0 ≤ _), (by decide : 15 + 0 ≤ _)⟩)
      dsimp only [Pt.U, Pt.locs, Pt.cells, Pt.slots] at X84 l84 y84 z84 st84 hQ84
      subst y84 z84
      replace X84 : Stand p l e _ s mt args below meth cd T84 L84 2 15 := X84
      obtain ⟨h84, e84⟩ : ∃ z, T84.heap = z := ⟨_, rfl⟩
      rw [e84] at hQ84
      obtain ⟨rfl, Nq84, K84, t84_st, t84_cm, t84_nn, t84_lo, t84_re, t84_fa⟩ := hQ84
      have N84 : Fr n0 L84 := by rw [l84]; exact Fr.app N71 Nq84
      have f85_221 := f72_71.keep K84
      have Z86 : n0 ≤ h84.size := Nat.le_trans Z73 K84.1
      refine Win.tr ?_ st84
      show Win p e below _ T84 (mkF mt 43 #[.val (.long a), .second, .val (.long b), .second, .val (.long c), .second, .val (.int f), .val (.long xx), .second, .val (.long yy), .second, .val (.long zz), .second, .val (.int (0 : Int32)), .val (.ref b67), .unset, .unset, .unset, .unset] [])
      exact js T84 h84 _ (((0 : Int64) + (1 : Int64))) X84 e84 N84 Z86 f85_221 t84_st t84_cm t84_nn t84_lo t84_re t84_fa
  · show Win p e below _ T71 (mkF mt 31 #[.val (.long a), .second, .val (.long b), .second, .val (.long c), .second, .val (.int f), .val (.long xx), .second, .val (.long yy), .second, .val (.long zz), .second, .val (.int (1 : Int32)), .val (.ref b67), .unset, .unset, .unset, .unset] [])
    refine Win.st ?_ (fun tq kq => XS.iload X71.here hx rfl (hb hby at_31) rfl kq)
    show Win p e below _ T71 (mkF mt 33 #[.val (.long a), .second, .val (.long b), .second, .val (.long c), .second, .val (.int f), .val (.long xx), .second, .val (.long yy), .second, .val (.long zz), .second, .val (.int (1 : Int32)), .val (.ref b67), .unset, .unset, .unset, .unset] [(.int f)])
    refine Win.st ?_ (fun tq kq => XS.iconst X71.here hx rfl (hb hby at_33) kq)
    show Win p e below _ T71 (mkF mt 34 #[.val (.long a), .second, .val (.long b), .second, .val (.long c), .second, .val (.int f), .val (.long xx), .second, .val (.long yy), .second, .val (.long zz), .second, .val (.int (1 : Int32)), .val (.ref b67), .unset, .unset, .unset, .unset] [(.int (4 : Int32)), (.int f)])
    refine Win.st ?_ (fun tq kq => XS.iand X71.here hx rfl (hb hby at_34) rfl kq)
    show Win p e below _ T71 (mkF mt 35 #[.val (.long a), .second, .val (.long b), .second, .val (.long c), .second, .val (.int f), .val (.long xx), .second, .val (.long yy), .second, .val (.long zz), .second, .val (.int (1 : Int32)), .val (.ref b67), .unset, .unset, .unset, .unset] [(.int (f &&& (4 : Int32)))])
    have js : ∀ (T87 : State) (h87 : Heap) (L87 : List Loc) (st : Int64), Stand p l e room_1 s mt args below meth cd T87 L87 2 15 → T87.heap = h87 → Fr n0 L87 → n0 ≤ h87.size → Exa Z h87 b67 "com/example/interleave/interleave/Tally" → Fld Z h87 b67 "com/example/interleave/interleave/Tally" "started" "J" (.long st) → Fld Z h87 b67 "com/example/interleave/interleave/Tally" "committed" "J" (.long (0 : Int64)) → Fld Z h87 b67 "com/example/interleave/interleave/Tally" "committedNanos" "J" (.long (0 : Int64)) → Fld Z h87 b67 "com/example/interleave/interleave/Tally" "longestNanos" "J" (.long (0 : Int64)) → Fld Z h87 b67 "com/example/interleave/interleave/Tally" "retried" "J" (.long (0 : Int64)) → Fld Z h87 b67 "com/example/interleave/interleave/Tally" "failed" "J" (.long (0 : Int64)) → Win p e below (Ends s (Q_law Z a b c f h0 n0) 2 15) T87 (mkF mt 43 #[.val (.long a), .second, .val (.long b), .second, .val (.long c), .second, .val (.int f), .val (.long xx), .second, .val (.long yy), .second, .val (.long zz), .second, .val (.int (1 : Int32)), .val (.ref b67), .unset, .unset, .unset, .unset] []) := by
      intro T87 h87 L87 st X87 e87 N87 Z87 f87_0 f87_1 f87_2 f87_3 f87_4 f87_5 f87_6
      refine Win.st ?_ (fun tq kq => XS.iload X87.here hx rfl (hb hby at_43) rfl kq)
      show Win p e below _ T87 (mkF mt 45 #[.val (.long a), .second, .val (.long b), .second, .val (.long c), .second, .val (.int f), .val (.long xx), .second, .val (.long yy), .second, .val (.long zz), .second, .val (.int (1 : Int32)), .val (.ref b67), .unset, .unset, .unset, .unset] [(.int (1 : Int32))])
      refine Win.st ?_ (fun tq kq => XS.iconst X87.here hx rfl (hb hby at_45) kq)
      show Win p e below _ T87 (mkF mt 46 #[.val (.long a), .second, .val (.long b), .second, .val (.long c), .second, .val (.int f), .val (.long xx), .second, .val (.long yy), .second, .val (.long zz), .second, .val (.int (1 : Int32)), .val (.ref b67), .unset, .unset, .unset, .unset] [(.int (1 : Int32)), (.int (1 : Int32))])
      refine Win.st ?_ (fun tq kq => XS.icmpNo X87.here hx rfl (hb hby at_46) rfl (flt (Int32.lt_irrefl)).1 kq)
      show Win p e below _ T87 (mkF mt 49 #[.val (.long a), .second, .val (.long b), .second, .val (.long c), .second, .val (.int f), .val (.long xx), .second, .val (.long yy), .second, .val (.long zz), .second, .val (.int (1 : Int32)), .val (.ref b67), .unset, .unset, .unset, .unset] [])
      refine Win.st ?_ (fun tq kq => XS.aload X87.here hx rfl (hb hby at_49) rfl rfl kq)
      show Win p e below _ T87 (mkF mt 51 #[.val (.long a), .second, .val (.long b), .second, .val (.long c), .second, .val (.int f), .val (.long xx), .second, .val (.long yy), .second, .val (.long zz), .second, .val (.int (1 : Int32)), .val (.ref b67), .unset, .unset, .unset, .unset] [(.ref b67)])
      refine Win.st ?_ (fun tq kq => XS.lload X87.here hx rfl (hb hby at_51) rfl kq)
      show Win p e below _ T87 (mkF mt 53 #[.val (.long a), .second, .val (.long b), .second, .val (.long c), .second, .val (.int f), .val (.long xx), .second, .val (.long yy), .second, .val (.long zz), .second, .val (.int (1 : Int32)), .val (.ref b67), .unset, .unset, .unset, .unset] [(.long xx), (.ref b67)])
      obtain ⟨cq88, kq88, q88a, q88b, q88c⟩ := isOf hZ e87 f87_0
      obtain ⟨v88, _, ⟨T88, L88, k88, n88⟩, -, X88, ⟨Lc88, hQ88, l88, y88, z88⟩, st88⟩ := X87.virtualBack hx (y := (⟨"com/example/interleave/interleave/Tally", "commit", "(J)V"⟩ : MethodName)) (z := (⟨"com/example/interleave/interleave/Tally", "commit", "(J)V"⟩ : MethodName)) hown (mvT hZ (hw _ (List.mem_of_getElem? (i := 27) rfl))) (mvT hZ (hw _ (List.mem_of_getElem? (i := 28) rfl))) (notFace_of_selects (args := #[]) (mvT hZ (hw _ (List.mem_of_getElem? (i := 30) rfl)))) (mvT hZ (hw _ (List.mem_of_getElem? (i := 30) rfl))) (mvT hZ (hw _ (List.mem_of_getElem? (i := 29) rfl))) (by decide) (backOf (W := 0) (rm_tcommit l Z a0 hw [] b67 xx st (0 : Int64) (0 : Int64) (0 : Int64) (0 : Int64) (0 : Int64) h87 n0 Z87 f87_0 f87_1 f87_2 f87_3 f87_4 f87_5 f87_6 g68) hZ (hw _ (List.mem_of_getElem? (i := 31) rfl)) (hw _ (List.mem_of_getElem? (i := 2) rfl)) (by decide) (by decide)) q88a q88c (g := (mkF mt 53 #[.val (.long a), .second, .val (.long b), .second, .val (.long c), .second, .val (.int f), .val (.long xx), .second, .val (.long yy), .second, .val (.long zz), .second, .val (.int (1 : Int32)), .val (.ref b67), .unset, .unset, .unset, .unset] [(.long xx), (.ref b67)])) rfl (by rw [hml]; rfl) (Steps.refl _) (argsL := [(.long xx)]) (rest := []) (lenOf pd_3 rfl) rfl (by show 2 * 0 + _ ≤ _; exact Nat.le_of_eq rfl) (hb hby at_53) (fun _ _ => ⟨rfl, e87, (by decide : 2 + 0 ≤ _), (by decide : 15 + 0 ≤ _)⟩)
      dsimp only [Pt.U, Pt.locs, Pt.cells, Pt.slots] at X88 l88 y88 z88 st88 hQ88
      subst y88 z88
      replace X88 : Stand p l e _ s mt args below meth cd T88 L88 2 15 := X88
      obtain ⟨h88, e88⟩ : ∃ z, T88.heap = z := ⟨_, rfl⟩
      rw [e88] at hQ88
      obtain ⟨rfl, Nq88, K88, t88_st, t88_cm, t88_nn, t88_lo, t88_re, t88_fa⟩ := hQ88
      have N88 : Fr n0 L88 := by rw [l88]; exact Fr.app N87 Nq88
      have f89_254 := f87_0.keep K88
      have Z90 : n0 ≤ h88.size := Nat.le_trans Z87 K88.1
      refine Win.tr ?_ st88
      show Win p e below _ T88 (mkF mt 56 #[.val (.long a), .second, .val (.long b), .second, .val (.long c), .second, .val (.int f), .val (.long xx), .second, .val (.long yy), .second, .val (.long zz), .second, .val (.int (1 : Int32)), .val (.ref b67), .unset, .unset, .unset, .unset] [])
      refine Win.st ?_ (fun tq kq => XS.iload X88.here hx rfl (hb hby at_56) rfl kq)
      show Win p e below _ T88 (mkF mt 58 #[.val (.long a), .second, .val (.long b), .second, .val (.long c), .second, .val (.int f), .val (.long xx), .second, .val (.long yy), .second, .val (.long zz), .second, .val (.int (1 : Int32)), .val (.ref b67), .unset, .unset, .unset, .unset] [(.int f)])
      refine Win.st ?_ (fun tq kq => XS.bipush X88.here hx rfl (hb hby at_58) kq)
      show Win p e below _ T88 (mkF mt 60 #[.val (.long a), .second, .val (.long b), .second, .val (.long c), .second, .val (.int f), .val (.long xx), .second, .val (.long yy), .second, .val (.long zz), .second, .val (.int (1 : Int32)), .val (.ref b67), .unset, .unset, .unset, .unset] [(.int (8 : Int32)), (.int f)])
      refine Win.st ?_ (fun tq kq => XS.iand X88.here hx rfl (hb hby at_60) rfl kq)
      show Win p e below _ T88 (mkF mt 61 #[.val (.long a), .second, .val (.long b), .second, .val (.long c), .second, .val (.int f), .val (.long xx), .second, .val (.long yy), .second, .val (.long zz), .second, .val (.int (1 : Int32)), .val (.ref b67), .unset, .unset, .unset, .unset] [(.int (f &&& (8 : Int32)))])
      have jf : ∀ (T91 : State) (h91 : Heap) (L91 : List Loc) (fa : Int64), Stand p l e room_1 s mt args below meth cd T91 L91 2 15 → T91.heap = h91 → Fr n0 L91 → n0 ≤ h91.size → Exa Z h91 b67 "com/example/interleave/interleave/Tally" → Fld Z h91 b67 "com/example/interleave/interleave/Tally" "started" "J" (.long st) → Fld Z h91 b67 "com/example/interleave/interleave/Tally" "committed" "J" (.long ((0 : Int64) + (1 : Int64))) → Fld Z h91 b67 "com/example/interleave/interleave/Tally" "committedNanos" "J" (.long ((0 : Int64) + xx)) → Fld Z h91 b67 "com/example/interleave/interleave/Tally" "longestNanos" "J" (.long (own_maxL (0 : Int64) xx)) → Fld Z h91 b67 "com/example/interleave/interleave/Tally" "retried" "J" (.long (0 : Int64)) → Fld Z h91 b67 "com/example/interleave/interleave/Tally" "failed" "J" (.long fa) → Win p e below (Ends s (Q_law Z a b c f h0 n0) 2 15) T91 (mkF mt 69 #[.val (.long a), .second, .val (.long b), .second, .val (.long c), .second, .val (.int f), .val (.long xx), .second, .val (.long yy), .second, .val (.long zz), .second, .val (.int (1 : Int32)), .val (.ref b67), .unset, .unset, .unset, .unset] []) := by
        intro T91 h91 L91 fa X91 e91 N91 Z91 f91_0 f91_1 f91_2 f91_3 f91_4 f91_5 f91_6
        refine Win.st ?_ (fun tq kq => XS.iload X91.here hx rfl (hb hby at_69) rfl kq)
        show Win p e below _ T91 (mkF mt 71 #[.val (.long a), .second, .val (.long b), .second, .val (.long c), .second, .val (.int f), .val (.long xx), .second, .val (.long yy), .second, .val (.long zz), .second, .val (.int (1 : Int32)), .val (.ref b67), .unset, .unset, .unset, .unset] [(.int (1 : Int32))])
        refine Win.st ?_ (fun tq kq => XS.iconst X91.here hx rfl (hb hby at_71) kq)
        show Win p e below _ T91 (mkF mt 72 #[.val (.long a), .second, .val (.long b), .second, .val (.long c), .second, .val (.int f), .val (.long xx), .second, .val (.long yy), .second, .val (.long zz), .second, .val (.int (1 : Int32)), .val (.ref b67), .unset, .unset, .unset, .unset] [(.int (2 : Int32)), (.int (1 : Int32))])
        refine Win.st ?_ (fun tq kq => XS.icmpYes X91.here hx rfl (pc0 := 72) (pc' := 82) rfl (hb hby at_72) rfl (tlt (by decide : (1 : Int32) < (2 : Int32))).1 (by decide) (by decide) kq)
        show Win p e below _ T91 (mkF mt 82 #[.val (.long a), .second, .val (.long b), .second, .val (.long c), .second, .val (.int f), .val (.long xx), .second, .val (.long yy), .second, .val (.long zz), .second, .val (.int (1 : Int32)), .val (.ref b67), .unset, .unset, .unset, .unset] [])
        refine Win.st ?_ (fun tq kq => XS.iload X91.here hx rfl (hb hby at_82) rfl kq)
        show Win p e below _ T91 (mkF mt 84 #[.val (.long a), .second, .val (.long b), .second, .val (.long c), .second, .val (.int f), .val (.long xx), .second, .val (.long yy), .second, .val (.long zz), .second, .val (.int (1 : Int32)), .val (.ref b67), .unset, .unset, .unset, .unset] [(.int f)])
        refine Win.st ?_ (fun tq kq => XS.bipush X91.here hx rfl (hb hby at_84) kq)
        show Win p e below _ T91 (mkF mt 86 #[.val (.long a), .second, .val (.long b), .second, .val (.long c), .second, .val (.int f), .val (.long xx), .second, .val (.long yy), .second, .val (.long zz), .second, .val (.int (1 : Int32)), .val (.ref b67), .unset, .unset, .unset, .unset] [(.int (16 : Int32)), (.int f)])
        refine Win.st ?_ (fun tq kq => XS.iand X91.here hx rfl (hb hby at_86) rfl kq)
        show Win p e below _ T91 (mkF mt 87 #[.val (.long a), .second, .val (.long b), .second, .val (.long c), .second, .val (.int f), .val (.long xx), .second, .val (.long yy), .second, .val (.long zz), .second, .val (.int (1 : Int32)), .val (.ref b67), .unset, .unset, .unset, .unset] [(.int (f &&& (16 : Int32)))])
        have jr : ∀ (T92 : State) (h92 : Heap) (L92 : List Loc) (re : Int64), Stand p l e room_1 s mt args below meth cd T92 L92 2 15 → T92.heap = h92 → Fr n0 L92 → n0 ≤ h92.size → Exa Z h92 b67 "com/example/interleave/interleave/Tally" → Fld Z h92 b67 "com/example/interleave/interleave/Tally" "started" "J" (.long st) → Fld Z h92 b67 "com/example/interleave/interleave/Tally" "committed" "J" (.long ((0 : Int64) + (1 : Int64))) → Fld Z h92 b67 "com/example/interleave/interleave/Tally" "committedNanos" "J" (.long ((0 : Int64) + xx)) → Fld Z h92 b67 "com/example/interleave/interleave/Tally" "longestNanos" "J" (.long (own_maxL (0 : Int64) xx)) → Fld Z h92 b67 "com/example/interleave/interleave/Tally" "retried" "J" (.long re) → Fld Z h92 b67 "com/example/interleave/interleave/Tally" "failed" "J" (.long fa) → Win p e below (Ends s (Q_law Z a b c f h0 n0) 2 15) T92 (mkF mt 95 #[.val (.long a), .second, .val (.long b), .second, .val (.long c), .second, .val (.int f), .val (.long xx), .second, .val (.long yy), .second, .val (.long zz), .second, .val (.int (1 : Int32)), .val (.ref b67), .unset, .unset, .unset, .unset] []) := by
          intro T92 h92 L92 re X92 e92 N92 Z92 f92_0 f92_1 f92_2 f92_3 f92_4 f92_5 f92_6
          refine Win.st ?_ (fun tq kq => XS.iload X92.here hx rfl (hb hby at_95) rfl kq)
          show Win p e below _ T92 (mkF mt 97 #[.val (.long a), .second, .val (.long b), .second, .val (.long c), .second, .val (.int f), .val (.long xx), .second, .val (.long yy), .second, .val (.long zz), .second, .val (.int (1 : Int32)), .val (.ref b67), .unset, .unset, .unset, .unset] [(.int (1 : Int32))])
          refine Win.st ?_ (fun tq kq => XS.iconst X92.here hx rfl (hb hby at_97) kq)
          show Win p e below _ T92 (mkF mt 98 #[.val (.long a), .second, .val (.long b), .second, .val (.long c), .second, .val (.int f), .val (.long xx), .second, .val (.long yy), .second, .val (.long zz), .second, .val (.int (1 : Int32)), .val (.ref b67), .unset, .unset, .unset, .unset] [(.int (3 : Int32)), (.int (1 : Int32))])
          refine Win.st ?_ (fun tq kq => XS.icmpYes X92.here hx rfl (pc0 := 98) (pc' := 108) rfl (hb hby at_98) rfl (tlt (by decide : (1 : Int32) < (3 : Int32))).1 (by decide) (by decide) kq)
          show Win p e below _ T92 (mkF mt 108 #[.val (.long a), .second, .val (.long b), .second, .val (.long c), .second, .val (.int f), .val (.long xx), .second, .val (.long yy), .second, .val (.long zz), .second, .val (.int (1 : Int32)), .val (.ref b67), .unset, .unset, .unset, .unset] [])
          refine Win.st ?_ (fun tq kq => XS.aload X92.here hx rfl (hb hby at_108) rfl rfl kq)
          show Win p e below _ T92 (mkF mt 110 #[.val (.long a), .second, .val (.long b), .second, .val (.long c), .second, .val (.int f), .val (.long xx), .second, .val (.long yy), .second, .val (.long zz), .second, .val (.int (1 : Int32)), .val (.ref b67), .unset, .unset, .unset, .unset] [(.ref b67)])
          obtain ⟨cq93, kq93, q93a, q93b, q93c⟩ := isOf hZ e92 f92_0
          obtain ⟨v93, _, ⟨T93, L93, k93, n93⟩, -, X93, ⟨Lc93, hQ93, l93, y93, z93⟩, st93⟩ := X92.virtualBack hx (y := (⟨"com/example/interleave/interleave/Tally", "averageNanos", "()J"⟩ : MethodName)) (z := (⟨"com/example/interleave/interleave/Tally", "averageNanos", "()J"⟩ : MethodName)) hown (mvT hZ (hw _ (List.mem_of_getElem? (i := 42) rfl))) (mvT hZ (hw _ (List.mem_of_getElem? (i := 43) rfl))) (notFace_of_selects (args := #[]) (mvT hZ (hw _ (List.mem_of_getElem? (i := 45) rfl)))) (mvT hZ (hw _ (List.mem_of_getElem? (i := 45) rfl))) (mvT hZ (hw _ (List.mem_of_getElem? (i := 44) rfl))) (by decide) (backOf (W := 0) (rm_tavg l Z a0 hw [] b67 ((0 : Int64) + (1 : Int64)) ((0 : Int64) + xx) h92 n0 Z92 f92_2 f92_3) hZ (hw _ (List.mem_of_getElem? (i := 46) rfl)) (hw _ (List.mem_of_getElem? (i := 2) rfl)) (by decide) (by decide)) q93a q93c (g := (mkF mt 110 #[.val (.long a), .second, .val (.long b), .second, .val (.long c), .second, .val (.int f), .val (.long xx), .second, .val (.long yy), .second, .val (.long zz), .second, .val (.int (1 : Int32)), .val (.ref b67), .unset, .unset, .unset, .unset] [(.ref b67)])) rfl (by rw [hml]; rfl) (Steps.refl _) (argsL := []) (rest := []) (lenOf pd_2 rfl) rfl (by show 2 * 0 + _ ≤ _; exact Nat.le_of_eq rfl) (hb hby at_110) (fun _ _ => ⟨rfl, e92, (by decide : 2 + 0 ≤ _), (by decide : 15 + 0 ≤ _)⟩)
          dsimp only [Pt.U, Pt.locs, Pt.cells, Pt.slots] at X93 l93 y93 z93 st93 hQ93
          subst y93 z93
          replace X93 : Stand p l e _ s mt args below meth cd T93 L93 2 15 := X93
          obtain ⟨h93, e93⟩ : ∃ z, T93.heap = z := ⟨_, rfl⟩
          rw [e93] at hQ93
          obtain ⟨rfl, Nq93, eh93⟩ := hQ93
          have N93 : Fr n0 L93 := by rw [l93]; exact Fr.app N92 Nq93
          rw [eh93] at e93
          refine Win.tr ?_ st93
          show Win p e below _ T93 (mkF mt 113 #[.val (.long a), .second, .val (.long b), .second, .val (.long c), .second, .val (.int f), .val (.long xx), .second, .val (.long yy), .second, .val (.long zz), .second, .val (.int (1 : Int32)), .val (.ref b67), .unset, .unset, .unset, .unset] [(.long (own_avg ((0 : Int64) + (1 : Int64)) ((0 : Int64) + xx)))])
          refine Win.st ?_ (fun tq kq => XS.lstore X93.here hx rfl (hb hby at_113) rfl (l' := #[.val (.long a), .second, .val (.long b), .second, .val (.long c), .second, .val (.int f), .val (.long xx), .second, .val (.long yy), .second, .val (.long zz), .second, .val (.int (1 : Int32)), .val (.ref b67), .val (.long (own_avg ((0 : Int64) + (1 : Int64)) ((0 : Int64) + xx))), .second, .unset, .unset]) rfl kq)
          show Win p e below _ T93 (mkF mt 115 #[.val (.long a), .second, .val (.long b), .second, .val (.long c), .second, .val (.int f), .val (.long xx), .second, .val (.long yy), .second, .val (.long zz), .second, .val (.int (1 : Int32)), .val (.ref b67), .val (.long (own_avg ((0 : Int64) + (1 : Int64)) ((0 : Int64) + xx))), .second, .unset, .unset] [])
          refine Win.st ?_ (fun tq kq => XS.iload X93.here hx rfl (hb hby at_115) rfl kq)
          show Win p e below _ T93 (mkF mt 117 #[.val (.long a), .second, .val (.long b), .second, .val (.long c), .second, .val (.int f), .val (.long xx), .second, .val (.long yy), .second, .val (.long zz), .second, .val (.int (1 : Int32)), .val (.ref b67), .val (.long (own_avg ((0 : Int64) + (1 : Int64)) ((0 : Int64) + xx))), .second, .unset, .unset] [(.int (1 : Int32))])
          refine Win.st ?_ (fun tq kq => XS.ifYes X93.here hx rfl (pc0 := 117) (pc' := 126) rfl (hb hby at_117) rfl ((if0 _ _).trans (feq (by decide : ¬ ((1 : Int32) = (0 : Int32)))).2) (by decide) (by decide) kq)
          show Win p e below _ T93 (mkF mt 126 #[.val (.long a), .second, .val (.long b), .second, .val (.long c), .second, .val (.int f), .val (.long xx), .second, .val (.long yy), .second, .val (.long zz), .second, .val (.int (1 : Int32)), .val (.ref b67), .val (.long (own_avg ((0 : Int64) + (1 : Int64)) ((0 : Int64) + xx))), .second, .unset, .unset] [])
          refine Win.st ?_ (fun tq kq => XS.iload X93.here hx rfl (hb hby at_126) rfl kq)
          show Win p e below _ T93 (mkF mt 128 #[.val (.long a), .second, .val (.long b), .second, .val (.long c), .second, .val (.int f), .val (.long xx), .second, .val (.long yy), .second, .val (.long zz), .second, .val (.int (1 : Int32)), .val (.ref b67), .val (.long (own_avg ((0 : Int64) + (1 : Int64)) ((0 : Int64) + xx))), .second, .unset, .unset] [(.int (1 : Int32))])
          refine Win.st ?_ (fun tq kq => XS.iconst X93.here hx rfl (hb hby at_128) kq)
          show Win p e below _ T93 (mkF mt 129 #[.val (.long a), .second, .val (.long b), .second, .val (.long c), .second, .val (.int f), .val (.long xx), .second, .val (.long yy), .second, .val (.long zz), .second, .val (.int (1 : Int32)), .val (.ref b67), .val (.long (own_avg ((0 : Int64) + (1 : Int64)) ((0 : Int64) + xx))), .second, .unset, .unset] [(.int (1 : Int32)), (.int (1 : Int32))])
          refine Win.st ?_ (fun tq kq => XS.icmpNo X93.here hx rfl (hb hby at_129) rfl (teq (rfl : (1 : Int32) = (1 : Int32))).2 kq)
          show Win p e below _ T93 (mkF mt 132 #[.val (.long a), .second, .val (.long b), .second, .val (.long c), .second, .val (.int f), .val (.long xx), .second, .val (.long yy), .second, .val (.long zz), .second, .val (.int (1 : Int32)), .val (.ref b67), .val (.long (own_avg ((0 : Int64) + (1 : Int64)) ((0 : Int64) + xx))), .second, .unset, .unset] [])
          refine Win.st ?_ (fun tq kq => XS.lload X93.here hx rfl (hb hby at_132) rfl kq)
          show Win p e below _ T93 (mkF mt 134 #[.val (.long a), .second, .val (.long b), .second, .val (.long c), .second, .val (.int f), .val (.long xx), .second, .val (.long yy), .second, .val (.long zz), .second, .val (.int (1 : Int32)), .val (.ref b67), .val (.long (own_avg ((0 : Int64) + (1 : Int64)) ((0 : Int64) + xx))), .second, .unset, .unset] [(.long xx)])
          refine Win.st ?_ (fun tq kq => XS.lstore X93.here hx rfl (hb hby at_134) rfl (l' := #[.val (.long a), .second, .val (.long b), .second, .val (.long c), .second, .val (.int f), .val (.long xx), .second, .val (.long yy), .second, .val (.long zz), .second, .val (.int (1 : Int32)), .val (.ref b67), .val (.long (own_avg ((0 : Int64) + (1 : Int64)) ((0 : Int64) + xx))), .second, .val (.long xx), .second]) rfl kq)
          show Win p e below _ T93 (mkF mt 136 #[.val (.long a), .second, .val (.long b), .second, .val (.long c), .second, .val (.int f), .val (.long xx), .second, .val (.long yy), .second, .val (.long zz), .second, .val (.int (1 : Int32)), .val (.ref b67), .val (.long (own_avg ((0 : Int64) + (1 : Int64)) ((0 : Int64) + xx))), .second, .val (.long xx), .second] [])
          refine Win.st ?_ (fun tq kq => XS.goto X93.here hx rfl (pc0 := 136) (pc' := 173) rfl (hb hby at_136) (by decide) (by decide) kq)
          show Win p e below _ T93 (mkF mt 173 #[.val (.long a), .second, .val (.long b), .second, .val (.long c), .second, .val (.int f), .val (.long xx), .second, .val (.long yy), .second, .val (.long zz), .second, .val (.int (1 : Int32)), .val (.ref b67), .val (.long (own_avg ((0 : Int64) + (1 : Int64)) ((0 : Int64) + xx))), .second, .val (.long xx), .second] [])
          refine Win.st ?_ (fun tq kq => XS.lload X93.here hx rfl (hb hby at_173) rfl kq)
          show Win p e below _ T93 (mkF mt 175 #[.val (.long a), .second, .val (.long b), .second, .val (.long c), .second, .val (.int f), .val (.long xx), .second, .val (.long yy), .second, .val (.long zz), .second, .val (.int (1 : Int32)), .val (.ref b67), .val (.long (own_avg ((0 : Int64) + (1 : Int64)) ((0 : Int64) + xx))), .second, .val (.long xx), .second] [(.long (own_avg ((0 : Int64) + (1 : Int64)) ((0 : Int64) + xx)))])
          refine Win.st ?_ (fun tq kq => XS.lload X93.here hx rfl (hb hby at_175) rfl kq)
          show Win p e below _ T93 (mkF mt 177 #[.val (.long a), .second, .val (.long b), .second, .val (.long c), .second, .val (.int f), .val (.long xx), .second, .val (.long yy), .second, .val (.long zz), .second, .val (.int (1 : Int32)), .val (.ref b67), .val (.long (own_avg ((0 : Int64) + (1 : Int64)) ((0 : Int64) + xx))), .second, .val (.long xx), .second] [(.long xx), (.long (own_avg ((0 : Int64) + (1 : Int64)) ((0 : Int64) + xx)))])
          refine Win.st ?_ (fun tq kq => XS.lcmp X93.here hx rfl (hb hby at_177) rfl kq)
          show Win p e below _ T93 (mkF mt 178 #[.val (.long a), .second, .val (.long b), .second, .val (.long c), .second, .val (.int f), .val (.long xx), .second, .val (.long yy), .second, .val (.long zz), .second, .val (.int (1 : Int32)), .val (.ref b67), .val (.long (own_avg ((0 : Int64) + (1 : Int64)) ((0 : Int64) + xx))), .second, .val (.long xx), .second] [(.int (lcmpW (own_avg ((0 : Int64) + (1 : Int64)) ((0 : Int64) + xx)) xx))])
          refine Win.st ?_ (fun tq kq => XS.ifNo X93.here hx rfl (hb hby at_178) rfl ((if0 _ _).trans (teq ((lw_eq _ _).mpr (own_avg1 _))).2) kq)
          show Win p e below _ T93 (mkF mt 181 #[.val (.long a), .second, .val (.long b), .second, .val (.long c), .second, .val (.int f), .val (.long xx), .second, .val (.long yy), .second, .val (.long zz), .second, .val (.int (1 : Int32)), .val (.ref b67), .val (.long (own_avg ((0 : Int64) + (1 : Int64)) ((0 : Int64) + xx))), .second, .val (.long xx), .second] [])
          refine Win.st ?_ (fun tq kq => XS.iconst X93.here hx rfl (hb hby at_181) kq)
          show Win p e below _ T93 (mkF mt 182 #[.val (.long a), .second, .val (.long b), .second, .val (.long c), .second, .val (.int f), .val (.long xx), .second, .val (.long yy), .second, .val (.long zz), .second, .val (.int (1 : Int32)), .val (.ref b67), .val (.long (own_avg ((0 : Int64) + (1 : Int64)) ((0 : Int64) + xx))), .second, .val (.long xx), .second] [(.int (1 : Int32))])
          refine Win.st ?_ (fun tq kq => XS.goto X93.here hx rfl (pc0 := 182) (pc' := 186) rfl (hb hby at_182) (by decide) (by decide) kq)
          show Win p e below _ T93 (mkF mt 186 #[.val (.long a), .second, .val (.long b), .second, .val (.long c), .second, .val (.int f), .val (.long xx), .second, .val (.long yy), .second, .val (.long zz), .second, .val (.int (1 : Int32)), .val (.ref b67), .val (.long (own_avg ((0 : Int64) + (1 : Int64)) ((0 : Int64) + xx))), .second, .val (.long xx), .second] [(.int (1 : Int32))])
          exact Win.retN X93 hx hlk e93 (t := .boolean) (z' := (1 : Int32)) hrt (by simp) (hb hby at_186) (by decide) (by decide) rfl ⟨rfl, N93⟩
        by_cases hc87 : (f &&& (16 : Int32)) = (0 : Int32)
        · refine Win.st ?_ (fun tq kq => XS.ifYes X91.here hx rfl (pc0 := 87) (pc' := 95) rfl (hb hby at_87) rfl ((if0 _ _).trans (teq hc87).1) (by decide) (by decide) kq)
          show Win p e below _ T91 (mkF mt 95 #[.val (.long a), .second, .val (.long b), .second, .val (.long c), .second, .val (.int f), .val (.long xx), .second, .val (.long yy), .second, .val (.long zz), .second, .val (.int (1 : Int32)), .val (.ref b67), .unset, .unset, .unset, .unset] [])
          exact jr T91 h91 _ ((0 : Int64)) X91 e91 N91 Z91 f91_0 f91_1 f91_2 f91_3 f91_4 f91_5 f91_6
        · refine Win.st ?_ (fun tq kq => XS.ifNo X91.here hx rfl (hb hby at_87) rfl ((if0 _ _).trans (feq hc87).1) kq)
          show Win p e below _ T91 (mkF mt 90 #[.val (.long a), .second, .val (.long b), .second, .val (.long c), .second, .val (.int f), .val (.long xx), .second, .val (.long yy), .second, .val (.long zz), .second, .val (.int (1 : Int32)), .val (.ref b67), .unset, .unset, .unset, .unset] [])
          refine Win.st ?_ (fun tq kq => XS.aload X91.here hx rfl (hb hby at_90) rfl rfl kq)
          show Win p e below _ T91 (mkF mt 92 #[.val (.long a), .second, .val (.long b), .second, .val (.long c), .second, .val (.int f), .val (.long xx), .second, .val (.long yy), .second, .val (.long zz), .second, .val (.int (1 : Int32)), .val (.ref b67), .unset, .unset, .unset, .unset] [(.ref b67)])
          obtain ⟨cq94, kq94, q94a, q94b, q94c⟩ := isOf hZ e91 f91_0
          obtain ⟨v94, _, ⟨T94, L94, k94, n94⟩, -, X94, ⟨Lc94, hQ94, l94, y94, z94⟩, st94⟩ := X91.virtualBack hx (y := (⟨"com/example/interleave/interleave/Tally", "retry", "()V"⟩ : MethodName)) (z := (⟨"com/example/interleave/interleave/Tally", "retry", "()V"⟩ : MethodName)) hown (mvT hZ (hw _ (List.mem_of_getElem? (i := 55) rfl))) (mvT hZ (hw _ (List.mem_of_getElem? (i := 56) rfl))) (notFace_of_selects (args := #[]) (mvT hZ (hw _ (List.mem_of_getElem? (i := 58) rfl)))) (mvT hZ (hw _ (List.mem_of_getElem? (i := 58) rfl))) (mvT hZ (hw _ (List.mem_of_getElem? (i := 57) rfl))) (by decide) (backOf (W := 0) (rm_tretry l Z a0 hw [] b67 st ((0 : Int64) + (1 : Int64)) ((0 : Int64) + xx) (own_maxL (0 : Int64) xx) (0 : Int64) fa h91 n0 Z91 f91_0 f91_1 f91_2 f91_3 f91_4 f91_5 f91_6 g68) hZ (hw _ (List.mem_of_getElem? (i := 59) rfl)) (hw _ (List.mem_of_getElem? (i := 2) rfl)) (by decide) (by decide)) q94a q94c (g := (mkF mt 92 #[.val (.long a), .second, .val (.long b), .second, .val (.long c), .second, .val (.int f), .val (.long xx), .second, .val (.long yy), .second, .val (.long zz), .second, .val (.int (1 : Int32)), .val (.ref b67), .unset, .unset, .unset, .unset] [(.ref b67)])) rfl (by rw [hml]; rfl) (Steps.refl _) (argsL := []) (rest := []) (lenOf pd_0 rfl) rfl (by show 2 * 0 + _ ≤ _; exact Nat.le_of_eq rfl) (hb hby at_92) (fun _ _ => ⟨rfl, e91, (by decide : 2 + 0 ≤ _), (by decide : 15 + 0 ≤ _)⟩)
          dsimp only [Pt.U, Pt.locs, Pt.cells, Pt.slots] at X94 l94 y94 z94 st94 hQ94
          subst y94 z94
          replace X94 : Stand p l e _ s mt args below meth cd T94 L94 2 15 := X94
          obtain ⟨h94, e94⟩ : ∃ z, T94.heap = z := ⟨_, rfl⟩
          rw [e94] at hQ94
          obtain ⟨rfl, Nq94, K94, t94_st, t94_cm, t94_nn, t94_lo, t94_re, t94_fa⟩ := hQ94
          have N94 : Fr n0 L94 := by rw [l94]; exact Fr.app N91 Nq94
          have f95_348 := f91_0.keep K94
          have Z96 : n0 ≤ h94.size := Nat.le_trans Z91 K94.1
          refine Win.tr ?_ st94
          show Win p e below _ T94 (mkF mt 95 #[.val (.long a), .second, .val (.long b), .second, .val (.long c), .second, .val (.int f), .val (.long xx), .second, .val (.long yy), .second, .val (.long zz), .second, .val (.int (1 : Int32)), .val (.ref b67), .unset, .unset, .unset, .unset] [])
          exact jr T94 h94 _ (((0 : Int64) + (1 : Int64))) X94 e94 N94 Z96 f95_348 t94_st t94_cm t94_nn t94_lo t94_re t94_fa
      by_cases hc61 : (f &&& (8 : Int32)) = (0 : Int32)
      · refine Win.st ?_ (fun tq kq => XS.ifYes X88.here hx rfl (pc0 := 61) (pc' := 69) rfl (hb hby at_61) rfl ((if0 _ _).trans (teq hc61).1) (by decide) (by decide) kq)
        show Win p e below _ T88 (mkF mt 69 #[.val (.long a), .second, .val (.long b), .second, .val (.long c), .second, .val (.int f), .val (.long xx), .second, .val (.long yy), .second, .val (.long zz), .second, .val (.int (1 : Int32)), .val (.ref b67), .unset, .unset, .unset, .unset] [])
        exact jf T88 h88 _ ((0 : Int64)) X88 e88 N88 Z90 f89_254 t88_st t88_cm t88_nn t88_lo t88_re t88_fa
      · refine Win.st ?_ (fun tq kq => XS.ifNo X88.here hx rfl (hb hby at_61) rfl ((if0 _ _).trans (feq hc61).1) kq)
        show Win p e below _ T88 (mkF mt 64 #[.val (.long a), .second, .val (.long b), .second, .val (.long c), .second, .val (.int f), .val (.long xx), .second, .val (.long yy), .second, .val (.long zz), .second, .val (.int (1 : Int32)), .val (.ref b67), .unset, .unset, .unset, .unset] [])
        refine Win.st ?_ (fun tq kq => XS.aload X88.here hx rfl (hb hby at_64) rfl rfl kq)
        show Win p e below _ T88 (mkF mt 66 #[.val (.long a), .second, .val (.long b), .second, .val (.long c), .second, .val (.int f), .val (.long xx), .second, .val (.long yy), .second, .val (.long zz), .second, .val (.int (1 : Int32)), .val (.ref b67), .unset, .unset, .unset, .unset] [(.ref b67)])
        obtain ⟨cq97, kq97, q97a, q97b, q97c⟩ := isOf hZ e88 f89_254
        obtain ⟨v97, _, ⟨T97, L97, k97, n97⟩, -, X97, ⟨Lc97, hQ97, l97, y97, z97⟩, st97⟩ := X88.virtualBack hx (y := (⟨"com/example/interleave/interleave/Tally", "fail", "()V"⟩ : MethodName)) (z := (⟨"com/example/interleave/interleave/Tally", "fail", "()V"⟩ : MethodName)) hown (mvT hZ (hw _ (List.mem_of_getElem? (i := 63) rfl))) (mvT hZ (hw _ (List.mem_of_getElem? (i := 64) rfl))) (notFace_of_selects (args := #[]) (mvT hZ (hw _ (List.mem_of_getElem? (i := 66) rfl)))) (mvT hZ (hw _ (List.mem_of_getElem? (i := 66) rfl))) (mvT hZ (hw _ (List.mem_of_getElem? (i := 65) rfl))) (by decide) (backOf (W := 0) (rm_tfail l Z a0 hw [] b67 st ((0 : Int64) + (1 : Int64)) ((0 : Int64) + xx) (own_maxL (0 : Int64) xx) (0 : Int64) (0 : Int64) h88 n0 Z90 f89_254 t88_st t88_cm t88_nn t88_lo t88_re t88_fa g68) hZ (hw _ (List.mem_of_getElem? (i := 67) rfl)) (hw _ (List.mem_of_getElem? (i := 2) rfl)) (by decide) (by decide)) q97a q97c (g := (mkF mt 66 #[.val (.long a), .second, .val (.long b), .second, .val (.long c), .second, .val (.int f), .val (.long xx), .second, .val (.long yy), .second, .val (.long zz), .second, .val (.int (1 : Int32)), .val (.ref b67), .unset, .unset, .unset, .unset] [(.ref b67)])) rfl (by rw [hml]; rfl) (Steps.refl _) (argsL := []) (rest := []) (lenOf pd_0 rfl) rfl (by show 2 * 0 + _ ≤ _; exact Nat.le_of_eq rfl) (hb hby at_66) (fun _ _ => ⟨rfl, e88, (by decide : 2 + 0 ≤ _), (by decide : 15 + 0 ≤ _)⟩)
        dsimp only [Pt.U, Pt.locs, Pt.cells, Pt.slots] at X97 l97 y97 z97 st97 hQ97
        subst y97 z97
        replace X97 : Stand p l e _ s mt args below meth cd T97 L97 2 15 := X97
        obtain ⟨h97, e97⟩ : ∃ z, T97.heap = z := ⟨_, rfl⟩
        rw [e97] at hQ97
        obtain ⟨rfl, Nq97, K97, t97_st, t97_cm, t97_nn, t97_lo, t97_re, t97_fa⟩ := hQ97
        have N97 : Fr n0 L97 := by rw [l97]; exact Fr.app N88 Nq97
        have f98_370 := f89_254.keep K97
        have Z99 : n0 ≤ h97.size := Nat.le_trans Z90 K97.1
        refine Win.tr ?_ st97
        show Win p e below _ T97 (mkF mt 69 #[.val (.long a), .second, .val (.long b), .second, .val (.long c), .second, .val (.int f), .val (.long xx), .second, .val (.long yy), .second, .val (.long zz), .second, .val (.int (1 : Int32)), .val (.ref b67), .unset, .unset, .unset, .unset] [])
        exact jf T97 h97 _ (((0 : Int64) + (1 : Int64))) X97 e97 N97 Z99 f98_370 t97_st t97_cm t97_nn t97_lo t97_re t97_fa
    by_cases hc35 : (f &&& (4 : Int32)) = (0 : Int32)
    · refine Win.st ?_ (fun tq kq => XS.ifYes X71.here hx rfl (pc0 := 35) (pc' := 43) rfl (hb hby at_35) rfl ((if0 _ _).trans (teq hc35).1) (by decide) (by decide) kq)
      show Win p e below _ T71 (mkF mt 43 #[.val (.long a), .second, .val (.long b), .second, .val (.long c), .second, .val (.int f), .val (.long xx), .second, .val (.long yy), .second, .val (.long zz), .second, .val (.int (1 : Int32)), .val (.ref b67), .unset, .unset, .unset, .unset] [])
      exact js T71 h71 _ ((0 : Int64)) X71 e71 N71 Z73 f72_71 t71_st t71_cm t71_nn t71_lo t71_re t71_fa
    · refine Win.st ?_ (fun tq kq => XS.ifNo X71.here hx rfl (hb hby at_35) rfl ((if0 _ _).trans (feq hc35).1) kq)
      show Win p e below _ T71 (mkF mt 38 #[.val (.long a), .second, .val (.long b), .second, .val (.long c), .second, .val (.int f), .val (.long xx), .second, .val (.long yy), .second, .val (.long zz), .second, .val (.int (1 : Int32)), .val (.ref b67), .unset, .unset, .unset, .unset] [])
      refine Win.st ?_ (fun tq kq => XS.aload X71.here hx rfl (hb hby at_38) rfl rfl kq)
      show Win p e below _ T71 (mkF mt 40 #[.val (.long a), .second, .val (.long b), .second, .val (.long c), .second, .val (.int f), .val (.long xx), .second, .val (.long yy), .second, .val (.long zz), .second, .val (.int (1 : Int32)), .val (.ref b67), .unset, .unset, .unset, .unset] [(.ref b67)])
      obtain ⟨cq100, kq100, q100a, q100b, q100c⟩ := isOf hZ e71 f72_71
      obtain ⟨v100, _, ⟨T100, L100, k100, n100⟩, -, X100, ⟨Lc100, hQ100, l100, y100, z100⟩, st100⟩ := X71.virtualBack hx (y := (⟨"com/example/interleave/interleave/Tally", "start", "()V"⟩ : MethodName)) (z := (⟨"com/example/interleave/interleave/Tally", "start", "()V"⟩ : MethodName)) hown (mvT hZ (hw _ (List.mem_of_getElem? (i := 48) rfl))) (mvT hZ (hw _ (List.mem_of_getElem? (i := 49) rfl))) (notFace_of_selects (args := #[]) (mvT hZ (hw _ (List.mem_of_getElem? (i := 51) rfl)))) (mvT hZ (hw _ (List.mem_of_getElem? (i := 51) rfl))) (mvT hZ (hw _ (List.mem_of_getElem? (i := 50) rfl))) (by decide) (backOf (W := 0) (rm_tstart l Z a0 hw [] b67 (0 : Int64) (0 : Int64) (0 : Int64) (0 : Int64) (0 : Int64) (0 : Int64) h71 n0 Z73 f72_71 t71_st t71_cm t71_nn t71_lo t71_re t71_fa g68) hZ (hw _ (List.mem_of_getElem? (i := 52) rfl)) (hw _ (List.mem_of_getElem? (i := 2) rfl)) (by decide) (by decide)) q100a q100c (g := (mkF mt 40 #[.val (.long a), .second, .val (.long b), .second, .val (.long c), .second, .val (.int f), .val (.long xx), .second, .val (.long yy), .second, .val (.long zz), .second, .val (.int (1 : Int32)), .val (.ref b67), .unset, .unset, .unset, .unset] [(.ref b67)])) rfl (by rw [hml]; rfl) (Steps.refl _) (argsL := []) (rest := []) (lenOf pd_0 rfl) rfl (by show 2 * 0 + _ ≤ _; exact Nat.le_of_eq rfl) (hb hby at_40) (fun _ _ => ⟨rfl, e71, (by decide : 2 + 0 ≤ _), (by decide : 15 + 0 ≤ _)⟩)
      dsimp only [Pt.U, Pt.locs, Pt.cells, Pt.slots] at X100 l100 y100 z100 st100 hQ100
      subst y100 z100
      replace X100 : Stand p l e _ s mt args below meth cd T100 L100 2 15 := X100
      obtain ⟨h100, e100⟩ : ∃ z, T100.heap = z := ⟨_, rfl⟩
      rw [e100] at hQ100
      obtain ⟨rfl, Nq100, K100, t100_st, t100_cm, t100_nn, t100_lo, t100_re, t100_fa⟩ := hQ100
      have N100 : Fr n0 L100 := by rw [l100]; exact Fr.app N71 Nq100
      have f101_392 := f72_71.keep K100
      have Z102 : n0 ≤ h100.size := Nat.le_trans Z73 K100.1
      refine Win.tr ?_ st100
      show Win p e below _ T100 (mkF mt 43 #[.val (.long a), .second, .val (.long b), .second, .val (.long c), .second, .val (.int f), .val (.long xx), .second, .val (.long yy), .second, .val (.long zz), .second, .val (.int (1 : Int32)), .val (.ref b67), .unset, .unset, .unset, .unset] [])
      exact js T100 h100 _ (((0 : Int64) + (1 : Int64))) X100 e100 N100 Z102 f101_392 t100_st t100_cm t100_nn t100_lo t100_re t100_fa
  · show Win p e below _ T71 (mkF mt 31 #[.val (.long a), .second, .val (.long b), .second, .val (.long c), .second, .val (.int f), .val (.long xx), .second, .val (.long yy), .second, .val (.long zz), .second, .val (.int (2 : Int32)), .val (.ref b67), .unset, .unset, .unset, .unset] [])
    refine Win.st ?_ (fun tq kq => XS.iload X71.here hx rfl (hb hby at_31) rfl kq)
    show Win p e below _ T71 (mkF mt 33 #[.val (.long a), .second, .val (.long b), .second, .val (.long c), .second, .val (.int f), .val (.long xx), .second, .val (.long yy), .second, .val (.long zz), .second, .val (.int (2 : Int32)), .val (.ref b67), .unset, .unset, .unset, .unset] [(.int f)])
    refine Win.st ?_ (fun tq kq => XS.iconst X71.here hx rfl (hb hby at_33) kq)
    show Win p e below _ T71 (mkF mt 34 #[.val (.long a), .second, .val (.long b), .second, .val (.long c), .second, .val (.int f), .val (.long xx), .second, .val (.long yy), .second, .val (.long zz), .second, .val (.int (2 : Int32)), .val (.ref b67), .unset, .unset, .unset, .unset] [(.int (4 : Int32)), (.int f)])
    refine Win.st ?_ (fun tq kq => XS.iand X71.here hx rfl (hb hby at_34) rfl kq)
    show Win p e below _ T71 (mkF mt 35 #[.val (.long a), .second, .val (.long b), .second, .val (.long c), .second, .val (.int f), .val (.long xx), .second, .val (.long yy), .second, .val (.long zz), .second, .val (.int (2 : Int32)), .val (.ref b67), .unset, .unset, .unset, .unset] [(.int (f &&& (4 : Int32)))])
    have js : ∀ (T103 : State) (h103 : Heap) (L103 : List Loc) (st : Int64), Stand p l e room_1 s mt args below meth cd T103 L103 2 15 → T103.heap = h103 → Fr n0 L103 → n0 ≤ h103.size → Exa Z h103 b67 "com/example/interleave/interleave/Tally" → Fld Z h103 b67 "com/example/interleave/interleave/Tally" "started" "J" (.long st) → Fld Z h103 b67 "com/example/interleave/interleave/Tally" "committed" "J" (.long (0 : Int64)) → Fld Z h103 b67 "com/example/interleave/interleave/Tally" "committedNanos" "J" (.long (0 : Int64)) → Fld Z h103 b67 "com/example/interleave/interleave/Tally" "longestNanos" "J" (.long (0 : Int64)) → Fld Z h103 b67 "com/example/interleave/interleave/Tally" "retried" "J" (.long (0 : Int64)) → Fld Z h103 b67 "com/example/interleave/interleave/Tally" "failed" "J" (.long (0 : Int64)) → Win p e below (Ends s (Q_law Z a b c f h0 n0) 2 15) T103 (mkF mt 43 #[.val (.long a), .second, .val (.long b), .second, .val (.long c), .second, .val (.int f), .val (.long xx), .second, .val (.long yy), .second, .val (.long zz), .second, .val (.int (2 : Int32)), .val (.ref b67), .unset, .unset, .unset, .unset] []) := by
      intro T103 h103 L103 st X103 e103 N103 Z103 f103_0 f103_1 f103_2 f103_3 f103_4 f103_5 f103_6
      refine Win.st ?_ (fun tq kq => XS.iload X103.here hx rfl (hb hby at_43) rfl kq)
      show Win p e below _ T103 (mkF mt 45 #[.val (.long a), .second, .val (.long b), .second, .val (.long c), .second, .val (.int f), .val (.long xx), .second, .val (.long yy), .second, .val (.long zz), .second, .val (.int (2 : Int32)), .val (.ref b67), .unset, .unset, .unset, .unset] [(.int (2 : Int32))])
      refine Win.st ?_ (fun tq kq => XS.iconst X103.here hx rfl (hb hby at_45) kq)
      show Win p e below _ T103 (mkF mt 46 #[.val (.long a), .second, .val (.long b), .second, .val (.long c), .second, .val (.int f), .val (.long xx), .second, .val (.long yy), .second, .val (.long zz), .second, .val (.int (2 : Int32)), .val (.ref b67), .unset, .unset, .unset, .unset] [(.int (1 : Int32)), (.int (2 : Int32))])
      refine Win.st ?_ (fun tq kq => XS.icmpNo X103.here hx rfl (hb hby at_46) rfl (flt (by decide : ¬ ((2 : Int32) < (1 : Int32)))).1 kq)
      show Win p e below _ T103 (mkF mt 49 #[.val (.long a), .second, .val (.long b), .second, .val (.long c), .second, .val (.int f), .val (.long xx), .second, .val (.long yy), .second, .val (.long zz), .second, .val (.int (2 : Int32)), .val (.ref b67), .unset, .unset, .unset, .unset] [])
      refine Win.st ?_ (fun tq kq => XS.aload X103.here hx rfl (hb hby at_49) rfl rfl kq)
      show Win p e below _ T103 (mkF mt 51 #[.val (.long a), .second, .val (.long b), .second, .val (.long c), .second, .val (.int f), .val (.long xx), .second, .val (.long yy), .second, .val (.long zz), .second, .val (.int (2 : Int32)), .val (.ref b67), .unset, .unset, .unset, .unset] [(.ref b67)])
      refine Win.st ?_ (fun tq kq => XS.lload X103.here hx rfl (hb hby at_51) rfl kq)
      show Win p e below _ T103 (mkF mt 53 #[.val (.long a), .second, .val (.long b), .second, .val (.long c), .second, .val (.int f), .val (.long xx), .second, .val (.long yy), .second, .val (.long zz), .second, .val (.int (2 : Int32)), .val (.ref b67), .unset, .unset, .unset, .unset] [(.long xx), (.ref b67)])
      obtain ⟨cq104, kq104, q104a, q104b, q104c⟩ := isOf hZ e103 f103_0
      obtain ⟨v104, _, ⟨T104, L104, k104, n104⟩, -, X104, ⟨Lc104, hQ104, l104, y104, z104⟩, st104⟩ := X103.virtualBack hx (y := (⟨"com/example/interleave/interleave/Tally", "commit", "(J)V"⟩ : MethodName)) (z := (⟨"com/example/interleave/interleave/Tally", "commit", "(J)V"⟩ : MethodName)) hown (mvT hZ (hw _ (List.mem_of_getElem? (i := 27) rfl))) (mvT hZ (hw _ (List.mem_of_getElem? (i := 28) rfl))) (notFace_of_selects (args := #[]) (mvT hZ (hw _ (List.mem_of_getElem? (i := 30) rfl)))) (mvT hZ (hw _ (List.mem_of_getElem? (i := 30) rfl))) (mvT hZ (hw _ (List.mem_of_getElem? (i := 29) rfl))) (by decide) (backOf (W := 0) (rm_tcommit l Z a0 hw [] b67 xx st (0 : Int64) (0 : Int64) (0 : Int64) (0 : Int64) (0 : Int64) h103 n0 Z103 f103_0 f103_1 f103_2 f103_3 f103_4 f103_5 f103_6 g68) hZ (hw _ (List.mem_of_getElem? (i := 31) rfl)) (hw _ (List.mem_of_getElem? (i := 2) rfl)) (by decide) (by decide)) q104a q104c (g := (mkF mt 53 #[.val (.long a), .second, .val (.long b), .second, .val (.long c), .second, .val (.int f), .val (.long xx), .second, .val (.long yy), .second, .val (.long zz), .second, .val (.int (2 : Int32)), .val (.ref b67), .unset, .unset, .unset, .unset] [(.long xx), (.ref b67)])) rfl (by rw [hml]; rfl) (Steps.refl _) (argsL := [(.long xx)]) (rest := []) (lenOf pd_3 rfl) rfl (by show 2 * 0 + _ ≤ _; exact Nat.le_of_eq rfl) (hb hby at_53) (fun _ _ => ⟨rfl, e103, (by decide : 2 + 0 ≤ _), (by decide : 15 + 0 ≤ _)⟩)
      dsimp only [Pt.U, Pt.locs, Pt.cells, Pt.slots] at X104 l104 y104 z104 st104 hQ104
      subst y104 z104
      replace X104 : Stand p l e _ s mt args below meth cd T104 L104 2 15 := X104
      obtain ⟨h104, e104⟩ : ∃ z, T104.heap = z := ⟨_, rfl⟩
      rw [e104] at hQ104
      obtain ⟨rfl, Nq104, K104, t104_st, t104_cm, t104_nn, t104_lo, t104_re, t104_fa⟩ := hQ104
      have N104 : Fr n0 L104 := by rw [l104]; exact Fr.app N103 Nq104
      have f105_425 := f103_0.keep K104
      have Z106 : n0 ≤ h104.size := Nat.le_trans Z103 K104.1
      refine Win.tr ?_ st104
      show Win p e below _ T104 (mkF mt 56 #[.val (.long a), .second, .val (.long b), .second, .val (.long c), .second, .val (.int f), .val (.long xx), .second, .val (.long yy), .second, .val (.long zz), .second, .val (.int (2 : Int32)), .val (.ref b67), .unset, .unset, .unset, .unset] [])
      refine Win.st ?_ (fun tq kq => XS.iload X104.here hx rfl (hb hby at_56) rfl kq)
      show Win p e below _ T104 (mkF mt 58 #[.val (.long a), .second, .val (.long b), .second, .val (.long c), .second, .val (.int f), .val (.long xx), .second, .val (.long yy), .second, .val (.long zz), .second, .val (.int (2 : Int32)), .val (.ref b67), .unset, .unset, .unset, .unset] [(.int f)])
      refine Win.st ?_ (fun tq kq => XS.bipush X104.here hx rfl (hb hby at_58) kq)
      show Win p e below _ T104 (mkF mt 60 #[.val (.long a), .second, .val (.long b), .second, .val (.long c), .second, .val (.int f), .val (.long xx), .second, .val (.long yy), .second, .val (.long zz), .second, .val (.int (2 : Int32)), .val (.ref b67), .unset, .unset, .unset, .unset] [(.int (8 : Int32)), (.int f)])
      refine Win.st ?_ (fun tq kq => XS.iand X104.here hx rfl (hb hby at_60) rfl kq)
      show Win p e below _ T104 (mkF mt 61 #[.val (.long a), .second, .val (.long b), .second, .val (.long c), .second, .val (.int f), .val (.long xx), .second, .val (.long yy), .second, .val (.long zz), .second, .val (.int (2 : Int32)), .val (.ref b67), .unset, .unset, .unset, .unset] [(.int (f &&& (8 : Int32)))])
      have jf : ∀ (T107 : State) (h107 : Heap) (L107 : List Loc) (fa : Int64), Stand p l e room_1 s mt args below meth cd T107 L107 2 15 → T107.heap = h107 → Fr n0 L107 → n0 ≤ h107.size → Exa Z h107 b67 "com/example/interleave/interleave/Tally" → Fld Z h107 b67 "com/example/interleave/interleave/Tally" "started" "J" (.long st) → Fld Z h107 b67 "com/example/interleave/interleave/Tally" "committed" "J" (.long ((0 : Int64) + (1 : Int64))) → Fld Z h107 b67 "com/example/interleave/interleave/Tally" "committedNanos" "J" (.long ((0 : Int64) + xx)) → Fld Z h107 b67 "com/example/interleave/interleave/Tally" "longestNanos" "J" (.long (own_maxL (0 : Int64) xx)) → Fld Z h107 b67 "com/example/interleave/interleave/Tally" "retried" "J" (.long (0 : Int64)) → Fld Z h107 b67 "com/example/interleave/interleave/Tally" "failed" "J" (.long fa) → Win p e below (Ends s (Q_law Z a b c f h0 n0) 2 15) T107 (mkF mt 69 #[.val (.long a), .second, .val (.long b), .second, .val (.long c), .second, .val (.int f), .val (.long xx), .second, .val (.long yy), .second, .val (.long zz), .second, .val (.int (2 : Int32)), .val (.ref b67), .unset, .unset, .unset, .unset] []) := by
        intro T107 h107 L107 fa X107 e107 N107 Z107 f107_0 f107_1 f107_2 f107_3 f107_4 f107_5 f107_6
        refine Win.st ?_ (fun tq kq => XS.iload X107.here hx rfl (hb hby at_69) rfl kq)
        show Win p e below _ T107 (mkF mt 71 #[.val (.long a), .second, .val (.long b), .second, .val (.long c), .second, .val (.int f), .val (.long xx), .second, .val (.long yy), .second, .val (.long zz), .second, .val (.int (2 : Int32)), .val (.ref b67), .unset, .unset, .unset, .unset] [(.int (2 : Int32))])
        refine Win.st ?_ (fun tq kq => XS.iconst X107.here hx rfl (hb hby at_71) kq)
        show Win p e below _ T107 (mkF mt 72 #[.val (.long a), .second, .val (.long b), .second, .val (.long c), .second, .val (.int f), .val (.long xx), .second, .val (.long yy), .second, .val (.long zz), .second, .val (.int (2 : Int32)), .val (.ref b67), .unset, .unset, .unset, .unset] [(.int (2 : Int32)), (.int (2 : Int32))])
        refine Win.st ?_ (fun tq kq => XS.icmpNo X107.here hx rfl (hb hby at_72) rfl (flt (Int32.lt_irrefl)).1 kq)
        show Win p e below _ T107 (mkF mt 75 #[.val (.long a), .second, .val (.long b), .second, .val (.long c), .second, .val (.int f), .val (.long xx), .second, .val (.long yy), .second, .val (.long zz), .second, .val (.int (2 : Int32)), .val (.ref b67), .unset, .unset, .unset, .unset] [])
        refine Win.st ?_ (fun tq kq => XS.aload X107.here hx rfl (hb hby at_75) rfl rfl kq)
        show Win p e below _ T107 (mkF mt 77 #[.val (.long a), .second, .val (.long b), .second, .val (.long c), .second, .val (.int f), .val (.long xx), .second, .val (.long yy), .second, .val (.long zz), .second, .val (.int (2 : Int32)), .val (.ref b67), .unset, .unset, .unset, .unset] [(.ref b67)])
        refine Win.st ?_ (fun tq kq => XS.lload X107.here hx rfl (hb hby at_77) rfl kq)
        show Win p e below _ T107 (mkF mt 79 #[.val (.long a), .second, .val (.long b), .second, .val (.long c), .second, .val (.int f), .val (.long xx), .second, .val (.long yy), .second, .val (.long zz), .second, .val (.int (2 : Int32)), .val (.ref b67), .unset, .unset, .unset, .unset] [(.long yy), (.ref b67)])
        obtain ⟨cq108, kq108, q108a, q108b, q108c⟩ := isOf hZ e107 f107_0
        obtain ⟨v108, _, ⟨T108, L108, k108, n108⟩, -, X108, ⟨Lc108, hQ108, l108, y108, z108⟩, st108⟩ := X107.virtualBack hx (y := (⟨"com/example/interleave/interleave/Tally", "commit", "(J)V"⟩ : MethodName)) (z := (⟨"com/example/interleave/interleave/Tally", "commit", "(J)V"⟩ : MethodName)) hown (mvT hZ (hw _ (List.mem_of_getElem? (i := 27) rfl))) (mvT hZ (hw _ (List.mem_of_getElem? (i := 28) rfl))) (notFace_of_selects (args := #[]) (mvT hZ (hw _ (List.mem_of_getElem? (i := 30) rfl)))) (mvT hZ (hw _ (List.mem_of_getElem? (i := 30) rfl))) (mvT hZ (hw _ (List.mem_of_getElem? (i := 29) rfl))) (by decide) (backOf (W := 0) (rm_tcommit l Z a0 hw [] b67 yy st ((0 : Int64) + (1 : Int64)) ((0 : Int64) + xx) (own_maxL (0 : Int64) xx) (0 : Int64) fa h107 n0 Z107 f107_0 f107_1 f107_2 f107_3 f107_4 f107_5 f107_6 g68) hZ (hw _ (List.mem_of_getElem? (i := 31) rfl)) (hw _ (List.mem_of_getElem? (i := 2) rfl)) (by decide) (by decide)) q108a q108c (g := (mkF mt 79 #[.val (.long a), .second, .val (.long b), .second, .val (.long c), .second, .val (.int f), .val (.long xx), .second, .val (.long yy), .second, .val (.long zz), .second, .val (.int (2 : Int32)), .val (.ref b67), .unset, .unset, .unset, .unset] [(.long yy), (.ref b67)])) rfl (by rw [hml]; rfl) (Steps.refl _) (argsL := [(.long yy)]) (rest := []) (lenOf pd_3 rfl) rfl (by show 2 * 0 + _ ≤ _; exact Nat.le_of_eq rfl) (hb hby at_79) (fun _ _ => ⟨rfl, e107, (by decide : 2 + 0 ≤ _), (by decide : 15 + 0 ≤ _)⟩)
        dsimp only [Pt.U, Pt.locs, Pt.cells, Pt.slots] at X108 l108 y108 z108 st108 hQ108
        subst y108 z108
        replace X108 : Stand p l e _ s mt args below meth cd T108 L108 2 15 := X108
        obtain ⟨h108, e108⟩ : ∃ z, T108.heap = z := ⟨_, rfl⟩
        rw [e108] at hQ108
        obtain ⟨rfl, Nq108, K108, t108_st, t108_cm, t108_nn, t108_lo, t108_re, t108_fa⟩ := hQ108
        have N108 : Fr n0 L108 := by rw [l108]; exact Fr.app N107 Nq108
        have f109_456 := f107_0.keep K108
        have Z110 : n0 ≤ h108.size := Nat.le_trans Z107 K108.1
        refine Win.tr ?_ st108
        show Win p e below _ T108 (mkF mt 82 #[.val (.long a), .second, .val (.long b), .second, .val (.long c), .second, .val (.int f), .val (.long xx), .second, .val (.long yy), .second, .val (.long zz), .second, .val (.int (2 : Int32)), .val (.ref b67), .unset, .unset, .unset, .unset] [])
        refine Win.st ?_ (fun tq kq => XS.iload X108.here hx rfl (hb hby at_82) rfl kq)
        show Win p e below _ T108 (mkF mt 84 #[.val (.long a), .second, .val (.long b), .second, .val (.long c), .second, .val (.int f), .val (.long xx), .second, .val (.long yy), .second, .val (.long zz), .second, .val (.int (2 : Int32)), .val (.ref b67), .unset, .unset, .unset, .unset] [(.int f)])
        refine Win.st ?_ (fun tq kq => XS.bipush X108.here hx rfl (hb hby at_84) kq)
        show Win p e below _ T108 (mkF mt 86 #[.val (.long a), .second, .val (.long b), .second, .val (.long c), .second, .val (.int f), .val (.long xx), .second, .val (.long yy), .second, .val (.long zz), .second, .val (.int (2 : Int32)), .val (.ref b67), .unset, .unset, .unset, .unset] [(.int (16 : Int32)), (.int f)])
        refine Win.st ?_ (fun tq kq => XS.iand X108.here hx rfl (hb hby at_86) rfl kq)
        show Win p e below _ T108 (mkF mt 87 #[.val (.long a), .second, .val (.long b), .second, .val (.long c), .second, .val (.int f), .val (.long xx), .second, .val (.long yy), .second, .val (.long zz), .second, .val (.int (2 : Int32)), .val (.ref b67), .unset, .unset, .unset, .unset] [(.int (f &&& (16 : Int32)))])
        have jr : ∀ (T111 : State) (h111 : Heap) (L111 : List Loc) (re : Int64), Stand p l e room_1 s mt args below meth cd T111 L111 2 15 → T111.heap = h111 → Fr n0 L111 → n0 ≤ h111.size → Exa Z h111 b67 "com/example/interleave/interleave/Tally" → Fld Z h111 b67 "com/example/interleave/interleave/Tally" "started" "J" (.long st) → Fld Z h111 b67 "com/example/interleave/interleave/Tally" "committed" "J" (.long (((0 : Int64) + (1 : Int64)) + (1 : Int64))) → Fld Z h111 b67 "com/example/interleave/interleave/Tally" "committedNanos" "J" (.long (((0 : Int64) + xx) + yy)) → Fld Z h111 b67 "com/example/interleave/interleave/Tally" "longestNanos" "J" (.long (own_maxL (own_maxL (0 : Int64) xx) yy)) → Fld Z h111 b67 "com/example/interleave/interleave/Tally" "retried" "J" (.long re) → Fld Z h111 b67 "com/example/interleave/interleave/Tally" "failed" "J" (.long fa) → Win p e below (Ends s (Q_law Z a b c f h0 n0) 2 15) T111 (mkF mt 95 #[.val (.long a), .second, .val (.long b), .second, .val (.long c), .second, .val (.int f), .val (.long xx), .second, .val (.long yy), .second, .val (.long zz), .second, .val (.int (2 : Int32)), .val (.ref b67), .unset, .unset, .unset, .unset] []) := by
          intro T111 h111 L111 re X111 e111 N111 Z111 f111_0 f111_1 f111_2 f111_3 f111_4 f111_5 f111_6
          refine Win.st ?_ (fun tq kq => XS.iload X111.here hx rfl (hb hby at_95) rfl kq)
          show Win p e below _ T111 (mkF mt 97 #[.val (.long a), .second, .val (.long b), .second, .val (.long c), .second, .val (.int f), .val (.long xx), .second, .val (.long yy), .second, .val (.long zz), .second, .val (.int (2 : Int32)), .val (.ref b67), .unset, .unset, .unset, .unset] [(.int (2 : Int32))])
          refine Win.st ?_ (fun tq kq => XS.iconst X111.here hx rfl (hb hby at_97) kq)
          show Win p e below _ T111 (mkF mt 98 #[.val (.long a), .second, .val (.long b), .second, .val (.long c), .second, .val (.int f), .val (.long xx), .second, .val (.long yy), .second, .val (.long zz), .second, .val (.int (2 : Int32)), .val (.ref b67), .unset, .unset, .unset, .unset] [(.int (3 : Int32)), (.int (2 : Int32))])
          refine Win.st ?_ (fun tq kq => XS.icmpYes X111.here hx rfl (pc0 := 98) (pc' := 108) rfl (hb hby at_98) rfl (tlt (by decide : (2 : Int32) < (3 : Int32))).1 (by decide) (by decide) kq)
          show Win p e below _ T111 (mkF mt 108 #[.val (.long a), .second, .val (.long b), .second, .val (.long c), .second, .val (.int f), .val (.long xx), .second, .val (.long yy), .second, .val (.long zz), .second, .val (.int (2 : Int32)), .val (.ref b67), .unset, .unset, .unset, .unset] [])
          refine Win.st ?_ (fun tq kq => XS.aload X111.here hx rfl (hb hby at_108) rfl rfl kq)
          show Win p e below _ T111 (mkF mt 110 #[.val (.long a), .second, .val (.long b), .second, .val (.long c), .second, .val (.int f), .val (.long xx), .second, .val (.long yy), .second, .val (.long zz), .second, .val (.int (2 : Int32)), .val (.ref b67), .unset, .unset, .unset, .unset] [(.ref b67)])
          obtain ⟨cq112, kq112, q112a, q112b, q112c⟩ := isOf hZ e111 f111_0
          obtain ⟨v112, _, ⟨T112, L112, k112, n112⟩, -, X112, ⟨Lc112, hQ112, l112, y112, z112⟩, st112⟩ := X111.virtualBack hx (y := (⟨"com/example/interleave/interleave/Tally", "averageNanos", "()J"⟩ : MethodName)) (z := (⟨"com/example/interleave/interleave/Tally", "averageNanos", "()J"⟩ : MethodName)) hown (mvT hZ (hw _ (List.mem_of_getElem? (i := 42) rfl))) (mvT hZ (hw _ (List.mem_of_getElem? (i := 43) rfl))) (notFace_of_selects (args := #[]) (mvT hZ (hw _ (List.mem_of_getElem? (i := 45) rfl)))) (mvT hZ (hw _ (List.mem_of_getElem? (i := 45) rfl))) (mvT hZ (hw _ (List.mem_of_getElem? (i := 44) rfl))) (by decide) (backOf (W := 0) (rm_tavg l Z a0 hw [] b67 (((0 : Int64) + (1 : Int64)) + (1 : Int64)) (((0 : Int64) + xx) + yy) h111 n0 Z111 f111_2 f111_3) hZ (hw _ (List.mem_of_getElem? (i := 46) rfl)) (hw _ (List.mem_of_getElem? (i := 2) rfl)) (by decide) (by decide)) q112a q112c (g := (mkF mt 110 #[.val (.long a), .second, .val (.long b), .second, .val (.long c), .second, .val (.int f), .val (.long xx), .second, .val (.long yy), .second, .val (.long zz), .second, .val (.int (2 : Int32)), .val (.ref b67), .unset, .unset, .unset, .unset] [(.ref b67)])) rfl (by rw [hml]; rfl) (Steps.refl _) (argsL := []) (rest := []) (lenOf pd_2 rfl) rfl (by show 2 * 0 + _ ≤ _; exact Nat.le_of_eq rfl) (hb hby at_110) (fun _ _ => ⟨rfl, e111, (by decide : 2 + 0 ≤ _), (by decide : 15 + 0 ≤ _)⟩)
          dsimp only [Pt.U, Pt.locs, Pt.cells, Pt.slots] at X112 l112 y112 z112 st112 hQ112
          subst y112 z112
          replace X112 : Stand p l e _ s mt args below meth cd T112 L112 2 15 := X112
          obtain ⟨h112, e112⟩ : ∃ z, T112.heap = z := ⟨_, rfl⟩
          rw [e112] at hQ112
          obtain ⟨rfl, Nq112, eh112⟩ := hQ112
          have N112 : Fr n0 L112 := by rw [l112]; exact Fr.app N111 Nq112
          rw [eh112] at e112
          refine Win.tr ?_ st112
          show Win p e below _ T112 (mkF mt 113 #[.val (.long a), .second, .val (.long b), .second, .val (.long c), .second, .val (.int f), .val (.long xx), .second, .val (.long yy), .second, .val (.long zz), .second, .val (.int (2 : Int32)), .val (.ref b67), .unset, .unset, .unset, .unset] [(.long (own_avg (((0 : Int64) + (1 : Int64)) + (1 : Int64)) (((0 : Int64) + xx) + yy)))])
          refine Win.st ?_ (fun tq kq => XS.lstore X112.here hx rfl (hb hby at_113) rfl (l' := #[.val (.long a), .second, .val (.long b), .second, .val (.long c), .second, .val (.int f), .val (.long xx), .second, .val (.long yy), .second, .val (.long zz), .second, .val (.int (2 : Int32)), .val (.ref b67), .val (.long (own_avg (((0 : Int64) + (1 : Int64)) + (1 : Int64)) (((0 : Int64) + xx) + yy))), .second, .unset, .unset]) rfl kq)
          show Win p e below _ T112 (mkF mt 115 #[.val (.long a), .second, .val (.long b), .second, .val (.long c), .second, .val (.int f), .val (.long xx), .second, .val (.long yy), .second, .val (.long zz), .second, .val (.int (2 : Int32)), .val (.ref b67), .val (.long (own_avg (((0 : Int64) + (1 : Int64)) + (1 : Int64)) (((0 : Int64) + xx) + yy))), .second, .unset, .unset] [])
          refine Win.st ?_ (fun tq kq => XS.iload X112.here hx rfl (hb hby at_115) rfl kq)
          show Win p e below _ T112 (mkF mt 117 #[.val (.long a), .second, .val (.long b), .second, .val (.long c), .second, .val (.int f), .val (.long xx), .second, .val (.long yy), .second, .val (.long zz), .second, .val (.int (2 : Int32)), .val (.ref b67), .val (.long (own_avg (((0 : Int64) + (1 : Int64)) + (1 : Int64)) (((0 : Int64) + xx) + yy))), .second, .unset, .unset] [(.int (2 : Int32))])
          refine Win.st ?_ (fun tq kq => XS.ifYes X112.here hx rfl (pc0 := 117) (pc' := 126) rfl (hb hby at_117) rfl ((if0 _ _).trans (feq (by decide : ¬ ((2 : Int32) = (0 : Int32)))).2) (by decide) (by decide) kq)
          show Win p e below _ T112 (mkF mt 126 #[.val (.long a), .second, .val (.long b), .second, .val (.long c), .second, .val (.int f), .val (.long xx), .second, .val (.long yy), .second, .val (.long zz), .second, .val (.int (2 : Int32)), .val (.ref b67), .val (.long (own_avg (((0 : Int64) + (1 : Int64)) + (1 : Int64)) (((0 : Int64) + xx) + yy))), .second, .unset, .unset] [])
          refine Win.st ?_ (fun tq kq => XS.iload X112.here hx rfl (hb hby at_126) rfl kq)
          show Win p e below _ T112 (mkF mt 128 #[.val (.long a), .second, .val (.long b), .second, .val (.long c), .second, .val (.int f), .val (.long xx), .second, .val (.long yy), .second, .val (.long zz), .second, .val (.int (2 : Int32)), .val (.ref b67), .val (.long (own_avg (((0 : Int64) + (1 : Int64)) + (1 : Int64)) (((0 : Int64) + xx) + yy))), .second, .unset, .unset] [(.int (2 : Int32))])
          refine Win.st ?_ (fun tq kq => XS.iconst X112.here hx rfl (hb hby at_128) kq)
          show Win p e below _ T112 (mkF mt 129 #[.val (.long a), .second, .val (.long b), .second, .val (.long c), .second, .val (.int f), .val (.long xx), .second, .val (.long yy), .second, .val (.long zz), .second, .val (.int (2 : Int32)), .val (.ref b67), .val (.long (own_avg (((0 : Int64) + (1 : Int64)) + (1 : Int64)) (((0 : Int64) + xx) + yy))), .second, .unset, .unset] [(.int (1 : Int32)), (.int (2 : Int32))])
          refine Win.st ?_ (fun tq kq => XS.icmpYes X112.here hx rfl (pc0 := 129) (pc' := 139) rfl (hb hby at_129) rfl (feq (by decide : ¬ ((2 : Int32) = (1 : Int32)))).2 (by decide) (by decide) kq)
          show Win p e below _ T112 (mkF mt 139 #[.val (.long a), .second, .val (.long b), .second, .val (.long c), .second, .val (.int f), .val (.long xx), .second, .val (.long yy), .second, .val (.long zz), .second, .val (.int (2 : Int32)), .val (.ref b67), .val (.long (own_avg (((0 : Int64) + (1 : Int64)) + (1 : Int64)) (((0 : Int64) + xx) + yy))), .second, .unset, .unset] [])
          refine Win.st ?_ (fun tq kq => XS.iload X112.here hx rfl (hb hby at_139) rfl kq)
          show Win p e below _ T112 (mkF mt 141 #[.val (.long a), .second, .val (.long b), .second, .val (.long c), .second, .val (.int f), .val (.long xx), .second, .val (.long yy), .second, .val (.long zz), .second, .val (.int (2 : Int32)), .val (.ref b67), .val (.long (own_avg (((0 : Int64) + (1 : Int64)) + (1 : Int64)) (((0 : Int64) + xx) + yy))), .second, .unset, .unset] [(.int (2 : Int32))])
          refine Win.st ?_ (fun tq kq => XS.iconst X112.here hx rfl (hb hby at_141) kq)
          show Win p e below _ T112 (mkF mt 142 #[.val (.long a), .second, .val (.long b), .second, .val (.long c), .second, .val (.int f), .val (.long xx), .second, .val (.long yy), .second, .val (.long zz), .second, .val (.int (2 : Int32)), .val (.ref b67), .val (.long (own_avg (((0 : Int64) + (1 : Int64)) + (1 : Int64)) (((0 : Int64) + xx) + yy))), .second, .unset, .unset] [(.int (2 : Int32)), (.int (2 : Int32))])
          refine Win.st ?_ (fun tq kq => XS.icmpNo X112.here hx rfl (hb hby at_142) rfl (teq (rfl : (2 : Int32) = (2 : Int32))).2 kq)
          show Win p e below _ T112 (mkF mt 145 #[.val (.long a), .second, .val (.long b), .second, .val (.long c), .second, .val (.int f), .val (.long xx), .second, .val (.long yy), .second, .val (.long zz), .second, .val (.int (2 : Int32)), .val (.ref b67), .val (.long (own_avg (((0 : Int64) + (1 : Int64)) + (1 : Int64)) (((0 : Int64) + xx) + yy))), .second, .unset, .unset] [])
          refine Win.st ?_ (fun tq kq => XS.lload X112.here hx rfl (hb hby at_145) rfl kq)
          show Win p e below _ T112 (mkF mt 147 #[.val (.long a), .second, .val (.long b), .second, .val (.long c), .second, .val (.int f), .val (.long xx), .second, .val (.long yy), .second, .val (.long zz), .second, .val (.int (2 : Int32)), .val (.ref b67), .val (.long (own_avg (((0 : Int64) + (1 : Int64)) + (1 : Int64)) (((0 : Int64) + xx) + yy))), .second, .unset, .unset] [(.long xx)])
          refine Win.st ?_ (fun tq kq => XS.lload X112.here hx rfl (hb hby at_147) rfl kq)
          show Win p e below _ T112 (mkF mt 149 #[.val (.long a), .second, .val (.long b), .second, .val (.long c), .second, .val (.int f), .val (.long xx), .second, .val (.long yy), .second, .val (.long zz), .second, .val (.int (2 : Int32)), .val (.ref b67), .val (.long (own_avg (((0 : Int64) + (1 : Int64)) + (1 : Int64)) (((0 : Int64) + xx) + yy))), .second, .unset, .unset] [(.long yy), (.long xx)])
          refine Win.st ?_ (fun tq kq => XS.ladd X112.here hx rfl (hb hby at_149) rfl kq)
          show Win p e below _ T112 (mkF mt 150 #[.val (.long a), .second, .val (.long b), .second, .val (.long c), .second, .val (.int f), .val (.long xx), .second, .val (.long yy), .second, .val (.long zz), .second, .val (.int (2 : Int32)), .val (.ref b67), .val (.long (own_avg (((0 : Int64) + (1 : Int64)) + (1 : Int64)) (((0 : Int64) + xx) + yy))), .second, .unset, .unset] [(.long (xx + yy))])
          refine Win.st ?_ (X112.ldc2Long hx hown (mvT hZ (hw _ (List.mem_of_getElem? (i := 47) rfl))) (g := (mkF mt 150 #[.val (.long a), .second, .val (.long b), .second, .val (.long c), .second, .val (.int f), .val (.long xx), .second, .val (.long yy), .second, .val (.long zz), .second, .val (.int (2 : Int32)), .val (.ref b67), .val (.long (own_avg (((0 : Int64) + (1 : Int64)) + (1 : Int64)) (((0 : Int64) + xx) + yy))), .second, .unset, .unset] [(.long (xx + yy))])) rfl (hb hby at_150))
          show Win p e below _ T112 (mkF mt 153 #[.val (.long a), .second, .val (.long b), .second, .val (.long c), .second, .val (.int f), .val (.long xx), .second, .val (.long yy), .second, .val (.long zz), .second, .val (.int (2 : Int32)), .val (.ref b67), .val (.long (own_avg (((0 : Int64) + (1 : Int64)) + (1 : Int64)) (((0 : Int64) + xx) + yy))), .second, .unset, .unset] [(.long (2 : Int64)), (.long (xx + yy))])
          refine Win.st ?_ (fun tq kq => XS.ldiv X112.here hx rfl (hb hby at_153) rfl (by decide) kq)
          show Win p e below _ T112 (mkF mt 154 #[.val (.long a), .second, .val (.long b), .second, .val (.long c), .second, .val (.int f), .val (.long xx), .second, .val (.long yy), .second, .val (.long zz), .second, .val (.int (2 : Int32)), .val (.ref b67), .val (.long (own_avg (((0 : Int64) + (1 : Int64)) + (1 : Int64)) (((0 : Int64) + xx) + yy))), .second, .unset, .unset] [(.long ((xx + yy) / (2 : Int64)))])
          refine Win.st ?_ (fun tq kq => XS.lstore X112.here hx rfl (hb hby at_154) rfl (l' := #[.val (.long a), .second, .val (.long b), .second, .val (.long c), .second, .val (.int f), .val (.long xx), .second, .val (.long yy), .second, .val (.long zz), .second, .val (.int (2 : Int32)), .val (.ref b67), .val (.long (own_avg (((0 : Int64) + (1 : Int64)) + (1 : Int64)) (((0 : Int64) + xx) + yy))), .second, .val (.long ((xx + yy) / (2 : Int64))), .second]) rfl kq)
          show Win p e below _ T112 (mkF mt 156 #[.val (.long a), .second, .val (.long b), .second, .val (.long c), .second, .val (.int f), .val (.long xx), .second, .val (.long yy), .second, .val (.long zz), .second, .val (.int (2 : Int32)), .val (.ref b67), .val (.long (own_avg (((0 : Int64) + (1 : Int64)) + (1 : Int64)) (((0 : Int64) + xx) + yy))), .second, .val (.long ((xx + yy) / (2 : Int64))), .second] [])
          refine Win.st ?_ (fun tq kq => XS.goto X112.here hx rfl (pc0 := 156) (pc' := 173) rfl (hb hby at_156) (by decide) (by decide) kq)
          show Win p e below _ T112 (mkF mt 173 #[.val (.long a), .second, .val (.long b), .second, .val (.long c), .second, .val (.int f), .val (.long xx), .second, .val (.long yy), .second, .val (.long zz), .second, .val (.int (2 : Int32)), .val (.ref b67), .val (.long (own_avg (((0 : Int64) + (1 : Int64)) + (1 : Int64)) (((0 : Int64) + xx) + yy))), .second, .val (.long ((xx + yy) / (2 : Int64))), .second] [])
          refine Win.st ?_ (fun tq kq => XS.lload X112.here hx rfl (hb hby at_173) rfl kq)
          show Win p e below _ T112 (mkF mt 175 #[.val (.long a), .second, .val (.long b), .second, .val (.long c), .second, .val (.int f), .val (.long xx), .second, .val (.long yy), .second, .val (.long zz), .second, .val (.int (2 : Int32)), .val (.ref b67), .val (.long (own_avg (((0 : Int64) + (1 : Int64)) + (1 : Int64)) (((0 : Int64) + xx) + yy))), .second, .val (.long ((xx + yy) / (2 : Int64))), .second] [(.long (own_avg (((0 : Int64) + (1 : Int64)) + (1 : Int64)) (((0 : Int64) + xx) + yy)))])
          refine Win.st ?_ (fun tq kq => XS.lload X112.here hx rfl (hb hby at_175) rfl kq)
          show Win p e below _ T112 (mkF mt 177 #[.val (.long a), .second, .val (.long b), .second, .val (.long c), .second, .val (.int f), .val (.long xx), .second, .val (.long yy), .second, .val (.long zz), .second, .val (.int (2 : Int32)), .val (.ref b67), .val (.long (own_avg (((0 : Int64) + (1 : Int64)) + (1 : Int64)) (((0 : Int64) + xx) + yy))), .second, .val (.long ((xx + yy) / (2 : Int64))), .second] [(.long ((xx + yy) / (2 : Int64))), (.long (own_avg (((0 : Int64) + (1 : Int64)) + (1 : Int64)) (((0 : Int64) + xx) + yy)))])
          refine Win.st ?_ (fun tq kq => XS.lcmp X112.here hx rfl (hb hby at_177) rfl kq)
          show Win p e below _ T112 (mkF mt 178 #[.val (.long a), .second, .val (.long b), .second, .val (.long c), .second, .val (.int f), .val (.long xx), .second, .val (.long yy), .second, .val (.long zz), .second, .val (.int (2 : Int32)), .val (.ref b67), .val (.long (own_avg (((0 : Int64) + (1 : Int64)) + (1 : Int64)) (((0 : Int64) + xx) + yy))), .second, .val (.long ((xx + yy) / (2 : Int64))), .second] [(.int (lcmpW (own_avg (((0 : Int64) + (1 : Int64)) + (1 : Int64)) (((0 : Int64) + xx) + yy)) ((xx + yy) / (2 : Int64))))])
          refine Win.st ?_ (fun tq kq => XS.ifNo X112.here hx rfl (hb hby at_178) rfl ((if0 _ _).trans (teq ((lw_eq _ _).mpr ((own_avgd _ _ (2 : Int64) (by decide) (by decide)).trans (by rw [Int64.zero_add])))).2) kq)
          show Win p e below _ T112 (mkF mt 181 #[.val (.long a), .second, .val (.long b), .second, .val (.long c), .second, .val (.int f), .val (.long xx), .second, .val (.long yy), .second, .val (.long zz), .second, .val (.int (2 : Int32)), .val (.ref b67), .val (.long (own_avg (((0 : Int64) + (1 : Int64)) + (1 : Int64)) (((0 : Int64) + xx) + yy))), .second, .val (.long ((xx + yy) / (2 : Int64))), .second] [])
          refine Win.st ?_ (fun tq kq => XS.iconst X112.here hx rfl (hb hby at_181) kq)
          show Win p e below _ T112 (mkF mt 182 #[.val (.long a), .second, .val (.long b), .second, .val (.long c), .second, .val (.int f), .val (.long xx), .second, .val (.long yy), .second, .val (.long zz), .second, .val (.int (2 : Int32)), .val (.ref b67), .val (.long (own_avg (((0 : Int64) + (1 : Int64)) + (1 : Int64)) (((0 : Int64) + xx) + yy))), .second, .val (.long ((xx + yy) / (2 : Int64))), .second] [(.int (1 : Int32))])
          refine Win.st ?_ (fun tq kq => XS.goto X112.here hx rfl (pc0 := 182) (pc' := 186) rfl (hb hby at_182) (by decide) (by decide) kq)
          show Win p e below _ T112 (mkF mt 186 #[.val (.long a), .second, .val (.long b), .second, .val (.long c), .second, .val (.int f), .val (.long xx), .second, .val (.long yy), .second, .val (.long zz), .second, .val (.int (2 : Int32)), .val (.ref b67), .val (.long (own_avg (((0 : Int64) + (1 : Int64)) + (1 : Int64)) (((0 : Int64) + xx) + yy))), .second, .val (.long ((xx + yy) / (2 : Int64))), .second] [(.int (1 : Int32))])
          exact Win.retN X112 hx hlk e112 (t := .boolean) (z' := (1 : Int32)) hrt (by simp) (hb hby at_186) (by decide) (by decide) rfl ⟨rfl, N112⟩
        by_cases hc87 : (f &&& (16 : Int32)) = (0 : Int32)
        · refine Win.st ?_ (fun tq kq => XS.ifYes X108.here hx rfl (pc0 := 87) (pc' := 95) rfl (hb hby at_87) rfl ((if0 _ _).trans (teq hc87).1) (by decide) (by decide) kq)
          show Win p e below _ T108 (mkF mt 95 #[.val (.long a), .second, .val (.long b), .second, .val (.long c), .second, .val (.int f), .val (.long xx), .second, .val (.long yy), .second, .val (.long zz), .second, .val (.int (2 : Int32)), .val (.ref b67), .unset, .unset, .unset, .unset] [])
          exact jr T108 h108 _ ((0 : Int64)) X108 e108 N108 Z110 f109_456 t108_st t108_cm t108_nn t108_lo t108_re t108_fa
        · refine Win.st ?_ (fun tq kq => XS.ifNo X108.here hx rfl (hb hby at_87) rfl ((if0 _ _).trans (feq hc87).1) kq)
          show Win p e below _ T108 (mkF mt 90 #[.val (.long a), .second, .val (.long b), .second, .val (.long c), .second, .val (.int f), .val (.long xx), .second, .val (.long yy), .second, .val (.long zz), .second, .val (.int (2 : Int32)), .val (.ref b67), .unset, .unset, .unset, .unset] [])
          refine Win.st ?_ (fun tq kq => XS.aload X108.here hx rfl (hb hby at_90) rfl rfl kq)
          show Win p e below _ T108 (mkF mt 92 #[.val (.long a), .second, .val (.long b), .second, .val (.long c), .second, .val (.int f), .val (.long xx), .second, .val (.long yy), .second, .val (.long zz), .second, .val (.int (2 : Int32)), .val (.ref b67), .unset, .unset, .unset, .unset] [(.ref b67)])
          obtain ⟨cq113, kq113, q113a, q113b, q113c⟩ := isOf hZ e108 f109_456
          obtain ⟨v113, _, ⟨T113, L113, k113, n113⟩, -, X113, ⟨Lc113, hQ113, l113, y113, z113⟩, st113⟩ := X108.virtualBack hx (y := (⟨"com/example/interleave/interleave/Tally", "retry", "()V"⟩ : MethodName)) (z := (⟨"com/example/interleave/interleave/Tally", "retry", "()V"⟩ : MethodName)) hown (mvT hZ (hw _ (List.mem_of_getElem? (i := 55) rfl))) (mvT hZ (hw _ (List.mem_of_getElem? (i := 56) rfl))) (notFace_of_selects (args := #[]) (mvT hZ (hw _ (List.mem_of_getElem? (i := 58) rfl)))) (mvT hZ (hw _ (List.mem_of_getElem? (i := 58) rfl))) (mvT hZ (hw _ (List.mem_of_getElem? (i := 57) rfl))) (by decide) (backOf (W := 0) (rm_tretry l Z a0 hw [] b67 st (((0 : Int64) + (1 : Int64)) + (1 : Int64)) (((0 : Int64) + xx) + yy) (own_maxL (own_maxL (0 : Int64) xx) yy) (0 : Int64) fa h108 n0 Z110 f109_456 t108_st t108_cm t108_nn t108_lo t108_re t108_fa g68) hZ (hw _ (List.mem_of_getElem? (i := 59) rfl)) (hw _ (List.mem_of_getElem? (i := 2) rfl)) (by decide) (by decide)) q113a q113c (g := (mkF mt 92 #[.val (.long a), .second, .val (.long b), .second, .val (.long c), .second, .val (.int f), .val (.long xx), .second, .val (.long yy), .second, .val (.long zz), .second, .val (.int (2 : Int32)), .val (.ref b67), .unset, .unset, .unset, .unset] [(.ref b67)])) rfl (by rw [hml]; rfl) (Steps.refl _) (argsL := []) (rest := []) (lenOf pd_0 rfl) rfl (by show 2 * 0 + _ ≤ _; exact Nat.le_of_eq rfl) (hb hby at_92) (fun _ _ => ⟨rfl, e108, (by decide : 2 + 0 ≤ _), (by decide : 15 + 0 ≤ _)⟩)
          dsimp only [Pt.U, Pt.locs, Pt.cells, Pt.slots] at X113 l113 y113 z113 st113 hQ113
          subst y113 z113
          replace X113 : Stand p l e _ s mt args below meth cd T113 L113 2 15 := X113
          obtain ⟨h113, e113⟩ : ∃ z, T113.heap = z := ⟨_, rfl⟩
          rw [e113] at hQ113
          obtain ⟨rfl, Nq113, K113, t113_st, t113_cm, t113_nn, t113_lo, t113_re, t113_fa⟩ := hQ113
          have N113 : Fr n0 L113 := by rw [l113]; exact Fr.app N108 Nq113
          have f114_550 := f109_456.keep K113
          have Z115 : n0 ≤ h113.size := Nat.le_trans Z110 K113.1
          refine Win.tr ?_ st113
          show Win p e below _ T113 (mkF mt 95 #[.val (.long a), .second, .val (.long b), .second, .val (.long c), .second, .val (.int f), .val (.long xx), .second, .val (.long yy), .second, .val (.long zz), .second, .val (.int (2 : Int32)), .val (.ref b67), .unset, .unset, .unset, .unset] [])
          exact jr T113 h113 _ (((0 : Int64) + (1 : Int64))) X113 e113 N113 Z115 f114_550 t113_st t113_cm t113_nn t113_lo t113_re t113_fa
      by_cases hc61 : (f &&& (8 : Int32)) = (0 : Int32)
      · refine Win.st ?_ (fun tq kq => XS.ifYes X104.here hx rfl (pc0 := 61) (pc' := 69) rfl (hb hby at_61) rfl ((if0 _ _).trans (teq hc61).1) (by decide) (by decide) kq)
        show Win p e below _ T104 (mkF mt 69 #[.val (.long a), .second, .val (.long b), .second, .val (.long c), .second, .val (.int f), .val (.long xx), .second, .val (.long yy), .second, .val (.long zz), .second, .val (.int (2 : Int32)), .val (.ref b67), .unset, .unset, .unset, .unset] [])
        exact jf T104 h104 _ ((0 : Int64)) X104 e104 N104 Z106 f105_425 t104_st t104_cm t104_nn t104_lo t104_re t104_fa
      · refine Win.st ?_ (fun tq kq => XS.ifNo X104.here hx rfl (hb hby at_61) rfl ((if0 _ _).trans (feq hc61).1) kq)
        show Win p e below _ T104 (mkF mt 64 #[.val (.long a), .second, .val (.long b), .second, .val (.long c), .second, .val (.int f), .val (.long xx), .second, .val (.long yy), .second, .val (.long zz), .second, .val (.int (2 : Int32)), .val (.ref b67), .unset, .unset, .unset, .unset] [])
        refine Win.st ?_ (fun tq kq => XS.aload X104.here hx rfl (hb hby at_64) rfl rfl kq)
        show Win p e below _ T104 (mkF mt 66 #[.val (.long a), .second, .val (.long b), .second, .val (.long c), .second, .val (.int f), .val (.long xx), .second, .val (.long yy), .second, .val (.long zz), .second, .val (.int (2 : Int32)), .val (.ref b67), .unset, .unset, .unset, .unset] [(.ref b67)])
        obtain ⟨cq116, kq116, q116a, q116b, q116c⟩ := isOf hZ e104 f105_425
        obtain ⟨v116, _, ⟨T116, L116, k116, n116⟩, -, X116, ⟨Lc116, hQ116, l116, y116, z116⟩, st116⟩ := X104.virtualBack hx (y := (⟨"com/example/interleave/interleave/Tally", "fail", "()V"⟩ : MethodName)) (z := (⟨"com/example/interleave/interleave/Tally", "fail", "()V"⟩ : MethodName)) hown (mvT hZ (hw _ (List.mem_of_getElem? (i := 63) rfl))) (mvT hZ (hw _ (List.mem_of_getElem? (i := 64) rfl))) (notFace_of_selects (args := #[]) (mvT hZ (hw _ (List.mem_of_getElem? (i := 66) rfl)))) (mvT hZ (hw _ (List.mem_of_getElem? (i := 66) rfl))) (mvT hZ (hw _ (List.mem_of_getElem? (i := 65) rfl))) (by decide) (backOf (W := 0) (rm_tfail l Z a0 hw [] b67 st ((0 : Int64) + (1 : Int64)) ((0 : Int64) + xx) (own_maxL (0 : Int64) xx) (0 : Int64) (0 : Int64) h104 n0 Z106 f105_425 t104_st t104_cm t104_nn t104_lo t104_re t104_fa g68) hZ (hw _ (List.mem_of_getElem? (i := 67) rfl)) (hw _ (List.mem_of_getElem? (i := 2) rfl)) (by decide) (by decide)) q116a q116c (g := (mkF mt 66 #[.val (.long a), .second, .val (.long b), .second, .val (.long c), .second, .val (.int f), .val (.long xx), .second, .val (.long yy), .second, .val (.long zz), .second, .val (.int (2 : Int32)), .val (.ref b67), .unset, .unset, .unset, .unset] [(.ref b67)])) rfl (by rw [hml]; rfl) (Steps.refl _) (argsL := []) (rest := []) (lenOf pd_0 rfl) rfl (by show 2 * 0 + _ ≤ _; exact Nat.le_of_eq rfl) (hb hby at_66) (fun _ _ => ⟨rfl, e104, (by decide : 2 + 0 ≤ _), (by decide : 15 + 0 ≤ _)⟩)
        dsimp only [Pt.U, Pt.locs, Pt.cells, Pt.slots] at X116 l116 y116 z116 st116 hQ116
        subst y116 z116
        replace X116 : Stand p l e _ s mt args below meth cd T116 L116 2 15 := X116
        obtain ⟨h116, e116⟩ : ∃ z, T116.heap = z := ⟨_, rfl⟩
        rw [e116] at hQ116
        obtain ⟨rfl, Nq116, K116, t116_st, t116_cm, t116_nn, t116_lo, t116_re, t116_fa⟩ := hQ116
        have N116 : Fr n0 L116 := by rw [l116]; exact Fr.app N104 Nq116
        have f117_572 := f105_425.keep K116
        have Z118 : n0 ≤ h116.size := Nat.le_trans Z106 K116.1
        refine Win.tr ?_ st116
        show Win p e below _ T116 (mkF mt 69 #[.val (.long a), .second, .val (.long b), .second, .val (.long c), .second, .val (.int f), .val (.long xx), .second, .val (.long yy), .second, .val (.long zz), .second, .val (.int (2 : Int32)), .val (.ref b67), .unset, .unset, .unset, .unset] [])
        exact jf T116 h116 _ (((0 : Int64) + (1 : Int64))) X116 e116 N116 Z118 f117_572 t116_st t116_cm t116_nn t116_lo t116_re t116_fa
    by_cases hc35 : (f &&& (4 : Int32)) = (0 : Int32)
    · refine Win.st ?_ (fun tq kq => XS.ifYes X71.here hx rfl (pc0 := 35) (pc' := 43) rfl (hb hby at_35) rfl ((if0 _ _).trans (teq hc35).1) (by decide) (by decide) kq)
      show Win p e below _ T71 (mkF mt 43 #[.val (.long a), .second, .val (.long b), .second, .val (.long c), .second, .val (.int f), .val (.long xx), .second, .val (.long yy), .second, .val (.long zz), .second, .val (.int (2 : Int32)), .val (.ref b67), .unset, .unset, .unset, .unset] [])
      exact js T71 h71 _ ((0 : Int64)) X71 e71 N71 Z73 f72_71 t71_st t71_cm t71_nn t71_lo t71_re t71_fa
    · refine Win.st ?_ (fun tq kq => XS.ifNo X71.here hx rfl (hb hby at_35) rfl ((if0 _ _).trans (feq hc35).1) kq)
      show Win p e below _ T71 (mkF mt 38 #[.val (.long a), .second, .val (.long b), .second, .val (.long c), .second, .val (.int f), .val (.long xx), .second, .val (.long yy), .second, .val (.long zz), .second, .val (.int (2 : Int32)), .val (.ref b67), .unset, .unset, .unset, .unset] [])
      refine Win.st ?_ (fun tq kq => XS.aload X71.here hx rfl (hb hby at_38) rfl rfl kq)
      show Win p e below _ T71 (mkF mt 40 #[.val (.long a), .second, .val (.long b), .second, .val (.long c), .second, .val (.int f), .val (.long xx), .second, .val (.long yy), .second, .val (.long zz), .second, .val (.int (2 : Int32)), .val (.ref b67), .unset, .unset, .unset, .unset] [(.ref b67)])
      obtain ⟨cq119, kq119, q119a, q119b, q119c⟩ := isOf hZ e71 f72_71
      obtain ⟨v119, _, ⟨T119, L119, k119, n119⟩, -, X119, ⟨Lc119, hQ119, l119, y119, z119⟩, st119⟩ := X71.virtualBack hx (y := (⟨"com/example/interleave/interleave/Tally", "start", "()V"⟩ : MethodName)) (z := (⟨"com/example/interleave/interleave/Tally", "start", "()V"⟩ : MethodName)) hown (mvT hZ (hw _ (List.mem_of_getElem? (i := 48) rfl))) (mvT hZ (hw _ (List.mem_of_getElem? (i := 49) rfl))) (notFace_of_selects (args := #[]) (mvT hZ (hw _ (List.mem_of_getElem? (i := 51) rfl)))) (mvT hZ (hw _ (List.mem_of_getElem? (i := 51) rfl))) (mvT hZ (hw _ (List.mem_of_getElem? (i := 50) rfl))) (by decide) (backOf (W := 0) (rm_tstart l Z a0 hw [] b67 (0 : Int64) (0 : Int64) (0 : Int64) (0 : Int64) (0 : Int64) (0 : Int64) h71 n0 Z73 f72_71 t71_st t71_cm t71_nn t71_lo t71_re t71_fa g68) hZ (hw _ (List.mem_of_getElem? (i := 52) rfl)) (hw _ (List.mem_of_getElem? (i := 2) rfl)) (by decide) (by decide)) q119a q119c (g := (mkF mt 40 #[.val (.long a), .second, .val (.long b), .second, .val (.long c), .second, .val (.int f), .val (.long xx), .second, .val (.long yy), .second, .val (.long zz), .second, .val (.int (2 : Int32)), .val (.ref b67), .unset, .unset, .unset, .unset] [(.ref b67)])) rfl (by rw [hml]; rfl) (Steps.refl _) (argsL := []) (rest := []) (lenOf pd_0 rfl) rfl (by show 2 * 0 + _ ≤ _; exact Nat.le_of_eq rfl) (hb hby at_40) (fun _ _ => ⟨rfl, e71, (by decide : 2 + 0 ≤ _), (by decide : 15 + 0 ≤ _)⟩)
      dsimp only [Pt.U, Pt.locs, Pt.cells, Pt.slots] at X119 l119 y119 z119 st119 hQ119
      subst y119 z119
      replace X119 : Stand p l e _ s mt args below meth cd T119 L119 2 15 := X119
      obtain ⟨h119, e119⟩ : ∃ z, T119.heap = z := ⟨_, rfl⟩
      rw [e119] at hQ119
      obtain ⟨rfl, Nq119, K119, t119_st, t119_cm, t119_nn, t119_lo, t119_re, t119_fa⟩ := hQ119
      have N119 : Fr n0 L119 := by rw [l119]; exact Fr.app N71 Nq119
      have f120_594 := f72_71.keep K119
      have Z121 : n0 ≤ h119.size := Nat.le_trans Z73 K119.1
      refine Win.tr ?_ st119
      show Win p e below _ T119 (mkF mt 43 #[.val (.long a), .second, .val (.long b), .second, .val (.long c), .second, .val (.int f), .val (.long xx), .second, .val (.long yy), .second, .val (.long zz), .second, .val (.int (2 : Int32)), .val (.ref b67), .unset, .unset, .unset, .unset] [])
      exact js T119 h119 _ (((0 : Int64) + (1 : Int64))) X119 e119 N119 Z121 f120_594 t119_st t119_cm t119_nn t119_lo t119_re t119_fa
  · show Win p e below _ T71 (mkF mt 31 #[.val (.long a), .second, .val (.long b), .second, .val (.long c), .second, .val (.int f), .val (.long xx), .second, .val (.long yy), .second, .val (.long zz), .second, .val (.int (3 : Int32)), .val (.ref b67), .unset, .unset, .unset, .unset] [])
    refine Win.st ?_ (fun tq kq => XS.iload X71.here hx rfl (hb hby at_31) rfl kq)
    show Win p e below _ T71 (mkF mt 33 #[.val (.long a), .second, .val (.long b), .second, .val (.long c), .second, .val (.int f), .val (.long xx), .second, .val (.long yy), .second, .val (.long zz), .second, .val (.int (3 : Int32)), .val (.ref b67), .unset, .unset, .unset, .unset] [(.int f)])
    refine Win.st ?_ (fun tq kq => XS.iconst X71.here hx rfl (hb hby at_33) kq)
    show Win p e below _ T71 (mkF mt 34 #[.val (.long a), .second, .val (.long b), .second, .val (.long c), .second, .val (.int f), .val (.long xx), .second, .val (.long yy), .second, .val (.long zz), .second, .val (.int (3 : Int32)), .val (.ref b67), .unset, .unset, .unset, .unset] [(.int (4 : Int32)), (.int f)])
    refine Win.st ?_ (fun tq kq => XS.iand X71.here hx rfl (hb hby at_34) rfl kq)
    show Win p e below _ T71 (mkF mt 35 #[.val (.long a), .second, .val (.long b), .second, .val (.long c), .second, .val (.int f), .val (.long xx), .second, .val (.long yy), .second, .val (.long zz), .second, .val (.int (3 : Int32)), .val (.ref b67), .unset, .unset, .unset, .unset] [(.int (f &&& (4 : Int32)))])
    have js : ∀ (T122 : State) (h122 : Heap) (L122 : List Loc) (st : Int64), Stand p l e room_1 s mt args below meth cd T122 L122 2 15 → T122.heap = h122 → Fr n0 L122 → n0 ≤ h122.size → Exa Z h122 b67 "com/example/interleave/interleave/Tally" → Fld Z h122 b67 "com/example/interleave/interleave/Tally" "started" "J" (.long st) → Fld Z h122 b67 "com/example/interleave/interleave/Tally" "committed" "J" (.long (0 : Int64)) → Fld Z h122 b67 "com/example/interleave/interleave/Tally" "committedNanos" "J" (.long (0 : Int64)) → Fld Z h122 b67 "com/example/interleave/interleave/Tally" "longestNanos" "J" (.long (0 : Int64)) → Fld Z h122 b67 "com/example/interleave/interleave/Tally" "retried" "J" (.long (0 : Int64)) → Fld Z h122 b67 "com/example/interleave/interleave/Tally" "failed" "J" (.long (0 : Int64)) → Win p e below (Ends s (Q_law Z a b c f h0 n0) 2 15) T122 (mkF mt 43 #[.val (.long a), .second, .val (.long b), .second, .val (.long c), .second, .val (.int f), .val (.long xx), .second, .val (.long yy), .second, .val (.long zz), .second, .val (.int (3 : Int32)), .val (.ref b67), .unset, .unset, .unset, .unset] []) := by
      intro T122 h122 L122 st X122 e122 N122 Z122 f122_0 f122_1 f122_2 f122_3 f122_4 f122_5 f122_6
      refine Win.st ?_ (fun tq kq => XS.iload X122.here hx rfl (hb hby at_43) rfl kq)
      show Win p e below _ T122 (mkF mt 45 #[.val (.long a), .second, .val (.long b), .second, .val (.long c), .second, .val (.int f), .val (.long xx), .second, .val (.long yy), .second, .val (.long zz), .second, .val (.int (3 : Int32)), .val (.ref b67), .unset, .unset, .unset, .unset] [(.int (3 : Int32))])
      refine Win.st ?_ (fun tq kq => XS.iconst X122.here hx rfl (hb hby at_45) kq)
      show Win p e below _ T122 (mkF mt 46 #[.val (.long a), .second, .val (.long b), .second, .val (.long c), .second, .val (.int f), .val (.long xx), .second, .val (.long yy), .second, .val (.long zz), .second, .val (.int (3 : Int32)), .val (.ref b67), .unset, .unset, .unset, .unset] [(.int (1 : Int32)), (.int (3 : Int32))])
      refine Win.st ?_ (fun tq kq => XS.icmpNo X122.here hx rfl (hb hby at_46) rfl (flt (by decide : ¬ ((3 : Int32) < (1 : Int32)))).1 kq)
      show Win p e below _ T122 (mkF mt 49 #[.val (.long a), .second, .val (.long b), .second, .val (.long c), .second, .val (.int f), .val (.long xx), .second, .val (.long yy), .second, .val (.long zz), .second, .val (.int (3 : Int32)), .val (.ref b67), .unset, .unset, .unset, .unset] [])
      refine Win.st ?_ (fun tq kq => XS.aload X122.here hx rfl (hb hby at_49) rfl rfl kq)
      show Win p e below _ T122 (mkF mt 51 #[.val (.long a), .second, .val (.long b), .second, .val (.long c), .second, .val (.int f), .val (.long xx), .second, .val (.long yy), .second, .val (.long zz), .second, .val (.int (3 : Int32)), .val (.ref b67), .unset, .unset, .unset, .unset] [(.ref b67)])
      refine Win.st ?_ (fun tq kq => XS.lload X122.here hx rfl (hb hby at_51) rfl kq)
      show Win p e below _ T122 (mkF mt 53 #[.val (.long a), .second, .val (.long b), .second, .val (.long c), .second, .val (.int f), .val (.long xx), .second, .val (.long yy), .second, .val (.long zz), .second, .val (.int (3 : Int32)), .val (.ref b67), .unset, .unset, .unset, .unset] [(.long xx), (.ref b67)])
      obtain ⟨cq123, kq123, q123a, q123b, q123c⟩ := isOf hZ e122 f122_0
      obtain ⟨v123, _, ⟨T123, L123, k123, n123⟩, -, X123, ⟨Lc123, hQ123, l123, y123, z123⟩, st123⟩ := X122.virtualBack hx (y := (⟨"com/example/interleave/interleave/Tally", "commit", "(J)V"⟩ : MethodName)) (z := (⟨"com/example/interleave/interleave/Tally", "commit", "(J)V"⟩ : MethodName)) hown (mvT hZ (hw _ (List.mem_of_getElem? (i := 27) rfl))) (mvT hZ (hw _ (List.mem_of_getElem? (i := 28) rfl))) (notFace_of_selects (args := #[]) (mvT hZ (hw _ (List.mem_of_getElem? (i := 30) rfl)))) (mvT hZ (hw _ (List.mem_of_getElem? (i := 30) rfl))) (mvT hZ (hw _ (List.mem_of_getElem? (i := 29) rfl))) (by decide) (backOf (W := 0) (rm_tcommit l Z a0 hw [] b67 xx st (0 : Int64) (0 : Int64) (0 : Int64) (0 : Int64) (0 : Int64) h122 n0 Z122 f122_0 f122_1 f122_2 f122_3 f122_4 f122_5 f122_6 g68) hZ (hw _ (List.mem_of_getElem? (i := 31) rfl)) (hw _ (List.mem_of_getElem? (i := 2) rfl)) (by decide) (by decide)) q123a q123c (g := (mkF mt 53 #[.val (.long a), .second, .val (.long b), .second, .val (.long c), .second, .val (.int f), .val (.long xx), .second, .val (.long yy), .second, .val (.long zz), .second, .val (.int (3 : Int32)), .val (.ref b67), .unset, .unset, .unset, .unset] [(.long xx), (.ref b67)])) rfl (by rw [hml]; rfl) (Steps.refl _) (argsL := [(.long xx)]) (rest := []) (lenOf pd_3 rfl) rfl (by show 2 * 0 + _ ≤ _; exact Nat.le_of_eq rfl) (hb hby at_53) (fun _ _ => ⟨rfl, e122, (by decide : 2 + 0 ≤ _), (by decide : 15 + 0 ≤ _)⟩)
      dsimp only [Pt.U, Pt.locs, Pt.cells, Pt.slots] at X123 l123 y123 z123 st123 hQ123
      subst y123 z123
      replace X123 : Stand p l e _ s mt args below meth cd T123 L123 2 15 := X123
      obtain ⟨h123, e123⟩ : ∃ z, T123.heap = z := ⟨_, rfl⟩
      rw [e123] at hQ123
      obtain ⟨rfl, Nq123, K123, t123_st, t123_cm, t123_nn, t123_lo, t123_re, t123_fa⟩ := hQ123
      have N123 : Fr n0 L123 := by rw [l123]; exact Fr.app N122 Nq123
      have f124_627 := f122_0.keep K123
      have Z125 : n0 ≤ h123.size := Nat.le_trans Z122 K123.1
      refine Win.tr ?_ st123
      show Win p e below _ T123 (mkF mt 56 #[.val (.long a), .second, .val (.long b), .second, .val (.long c), .second, .val (.int f), .val (.long xx), .second, .val (.long yy), .second, .val (.long zz), .second, .val (.int (3 : Int32)), .val (.ref b67), .unset, .unset, .unset, .unset] [])
      refine Win.st ?_ (fun tq kq => XS.iload X123.here hx rfl (hb hby at_56) rfl kq)
      show Win p e below _ T123 (mkF mt 58 #[.val (.long a), .second, .val (.long b), .second, .val (.long c), .second, .val (.int f), .val (.long xx), .second, .val (.long yy), .second, .val (.long zz), .second, .val (.int (3 : Int32)), .val (.ref b67), .unset, .unset, .unset, .unset] [(.int f)])
      refine Win.st ?_ (fun tq kq => XS.bipush X123.here hx rfl (hb hby at_58) kq)
      show Win p e below _ T123 (mkF mt 60 #[.val (.long a), .second, .val (.long b), .second, .val (.long c), .second, .val (.int f), .val (.long xx), .second, .val (.long yy), .second, .val (.long zz), .second, .val (.int (3 : Int32)), .val (.ref b67), .unset, .unset, .unset, .unset] [(.int (8 : Int32)), (.int f)])
      refine Win.st ?_ (fun tq kq => XS.iand X123.here hx rfl (hb hby at_60) rfl kq)
      show Win p e below _ T123 (mkF mt 61 #[.val (.long a), .second, .val (.long b), .second, .val (.long c), .second, .val (.int f), .val (.long xx), .second, .val (.long yy), .second, .val (.long zz), .second, .val (.int (3 : Int32)), .val (.ref b67), .unset, .unset, .unset, .unset] [(.int (f &&& (8 : Int32)))])
      have jf : ∀ (T126 : State) (h126 : Heap) (L126 : List Loc) (fa : Int64), Stand p l e room_1 s mt args below meth cd T126 L126 2 15 → T126.heap = h126 → Fr n0 L126 → n0 ≤ h126.size → Exa Z h126 b67 "com/example/interleave/interleave/Tally" → Fld Z h126 b67 "com/example/interleave/interleave/Tally" "started" "J" (.long st) → Fld Z h126 b67 "com/example/interleave/interleave/Tally" "committed" "J" (.long ((0 : Int64) + (1 : Int64))) → Fld Z h126 b67 "com/example/interleave/interleave/Tally" "committedNanos" "J" (.long ((0 : Int64) + xx)) → Fld Z h126 b67 "com/example/interleave/interleave/Tally" "longestNanos" "J" (.long (own_maxL (0 : Int64) xx)) → Fld Z h126 b67 "com/example/interleave/interleave/Tally" "retried" "J" (.long (0 : Int64)) → Fld Z h126 b67 "com/example/interleave/interleave/Tally" "failed" "J" (.long fa) → Win p e below (Ends s (Q_law Z a b c f h0 n0) 2 15) T126 (mkF mt 69 #[.val (.long a), .second, .val (.long b), .second, .val (.long c), .second, .val (.int f), .val (.long xx), .second, .val (.long yy), .second, .val (.long zz), .second, .val (.int (3 : Int32)), .val (.ref b67), .unset, .unset, .unset, .unset] []) := by
        intro T126 h126 L126 fa X126 e126 N126 Z126 f126_0 f126_1 f126_2 f126_3 f126_4 f126_5 f126_6
        refine Win.st ?_ (fun tq kq => XS.iload X126.here hx rfl (hb hby at_69) rfl kq)
        show Win p e below _ T126 (mkF mt 71 #[.val (.long a), .second, .val (.long b), .second, .val (.long c), .second, .val (.int f), .val (.long xx), .second, .val (.long yy), .second, .val (.long zz), .second, .val (.int (3 : Int32)), .val (.ref b67), .unset, .unset, .unset, .unset] [(.int (3 : Int32))])
        refine Win.st ?_ (fun tq kq => XS.iconst X126.here hx rfl (hb hby at_71) kq)
        show Win p e below _ T126 (mkF mt 72 #[.val (.long a), .second, .val (.long b), .second, .val (.long c), .second, .val (.int f), .val (.long xx), .second, .val (.long yy), .second, .val (.long zz), .second, .val (.int (3 : Int32)), .val (.ref b67), .unset, .unset, .unset, .unset] [(.int (2 : Int32)), (.int (3 : Int32))])
        refine Win.st ?_ (fun tq kq => XS.icmpNo X126.here hx rfl (hb hby at_72) rfl (flt (by decide : ¬ ((3 : Int32) < (2 : Int32)))).1 kq)
        show Win p e below _ T126 (mkF mt 75 #[.val (.long a), .second, .val (.long b), .second, .val (.long c), .second, .val (.int f), .val (.long xx), .second, .val (.long yy), .second, .val (.long zz), .second, .val (.int (3 : Int32)), .val (.ref b67), .unset, .unset, .unset, .unset] [])
        refine Win.st ?_ (fun tq kq => XS.aload X126.here hx rfl (hb hby at_75) rfl rfl kq)
        show Win p e below _ T126 (mkF mt 77 #[.val (.long a), .second, .val (.long b), .second, .val (.long c), .second, .val (.int f), .val (.long xx), .second, .val (.long yy), .second, .val (.long zz), .second, .val (.int (3 : Int32)), .val (.ref b67), .unset, .unset, .unset, .unset] [(.ref b67)])
        refine Win.st ?_ (fun tq kq => XS.lload X126.here hx rfl (hb hby at_77) rfl kq)
        show Win p e below _ T126 (mkF mt 79 #[.val (.long a), .second, .val (.long b), .second, .val (.long c), .second, .val (.int f), .val (.long xx), .second, .val (.long yy), .second, .val (.long zz), .second, .val (.int (3 : Int32)), .val (.ref b67), .unset, .unset, .unset, .unset] [(.long yy), (.ref b67)])
        obtain ⟨cq127, kq127, q127a, q127b, q127c⟩ := isOf hZ e126 f126_0
        obtain ⟨v127, _, ⟨T127, L127, k127, n127⟩, -, X127, ⟨Lc127, hQ127, l127, y127, z127⟩, st127⟩ := X126.virtualBack hx (y := (⟨"com/example/interleave/interleave/Tally", "commit", "(J)V"⟩ : MethodName)) (z := (⟨"com/example/interleave/interleave/Tally", "commit", "(J)V"⟩ : MethodName)) hown (mvT hZ (hw _ (List.mem_of_getElem? (i := 27) rfl))) (mvT hZ (hw _ (List.mem_of_getElem? (i := 28) rfl))) (notFace_of_selects (args := #[]) (mvT hZ (hw _ (List.mem_of_getElem? (i := 30) rfl)))) (mvT hZ (hw _ (List.mem_of_getElem? (i := 30) rfl))) (mvT hZ (hw _ (List.mem_of_getElem? (i := 29) rfl))) (by decide) (backOf (W := 0) (rm_tcommit l Z a0 hw [] b67 yy st ((0 : Int64) + (1 : Int64)) ((0 : Int64) + xx) (own_maxL (0 : Int64) xx) (0 : Int64) fa h126 n0 Z126 f126_0 f126_1 f126_2 f126_3 f126_4 f126_5 f126_6 g68) hZ (hw _ (List.mem_of_getElem? (i := 31) rfl)) (hw _ (List.mem_of_getElem? (i := 2) rfl)) (by decide) (by decide)) q127a q127c (g := (mkF mt 79 #[.val (.long a), .second, .val (.long b), .second, .val (.long c), .second, .val (.int f), .val (.long xx), .second, .val (.long yy), .second, .val (.long zz), .second, .val (.int (3 : Int32)), .val (.ref b67), .unset, .unset, .unset, .unset] [(.long yy), (.ref b67)])) rfl (by rw [hml]; rfl) (Steps.refl _) (argsL := [(.long yy)]) (rest := []) (lenOf pd_3 rfl) rfl (by show 2 * 0 + _ ≤ _; exact Nat.le_of_eq rfl) (hb hby at_79) (fun _ _ => ⟨rfl, e126, (by decide : 2 + 0 ≤ _), (by decide : 15 + 0 ≤ _)⟩)
        dsimp only [Pt.U, Pt.locs, Pt.cells, Pt.slots] at X127 l127 y127 z127 st127 hQ127
        subst y127 z127
        replace X127 : Stand p l e _ s mt args below meth cd T127 L127 2 15 := X127
        obtain ⟨h127, e127⟩ : ∃ z, T127.heap = z := ⟨_, rfl⟩
        rw [e127] at hQ127
        obtain ⟨rfl, Nq127, K127, t127_st, t127_cm, t127_nn, t127_lo, t127_re, t127_fa⟩ := hQ127
        have N127 : Fr n0 L127 := by rw [l127]; exact Fr.app N126 Nq127
        have f128_658 := f126_0.keep K127
        have Z129 : n0 ≤ h127.size := Nat.le_trans Z126 K127.1
        refine Win.tr ?_ st127
        show Win p e below _ T127 (mkF mt 82 #[.val (.long a), .second, .val (.long b), .second, .val (.long c), .second, .val (.int f), .val (.long xx), .second, .val (.long yy), .second, .val (.long zz), .second, .val (.int (3 : Int32)), .val (.ref b67), .unset, .unset, .unset, .unset] [])
        refine Win.st ?_ (fun tq kq => XS.iload X127.here hx rfl (hb hby at_82) rfl kq)
        show Win p e below _ T127 (mkF mt 84 #[.val (.long a), .second, .val (.long b), .second, .val (.long c), .second, .val (.int f), .val (.long xx), .second, .val (.long yy), .second, .val (.long zz), .second, .val (.int (3 : Int32)), .val (.ref b67), .unset, .unset, .unset, .unset] [(.int f)])
        refine Win.st ?_ (fun tq kq => XS.bipush X127.here hx rfl (hb hby at_84) kq)
        show Win p e below _ T127 (mkF mt 86 #[.val (.long a), .second, .val (.long b), .second, .val (.long c), .second, .val (.int f), .val (.long xx), .second, .val (.long yy), .second, .val (.long zz), .second, .val (.int (3 : Int32)), .val (.ref b67), .unset, .unset, .unset, .unset] [(.int (16 : Int32)), (.int f)])
        refine Win.st ?_ (fun tq kq => XS.iand X127.here hx rfl (hb hby at_86) rfl kq)
        show Win p e below _ T127 (mkF mt 87 #[.val (.long a), .second, .val (.long b), .second, .val (.long c), .second, .val (.int f), .val (.long xx), .second, .val (.long yy), .second, .val (.long zz), .second, .val (.int (3 : Int32)), .val (.ref b67), .unset, .unset, .unset, .unset] [(.int (f &&& (16 : Int32)))])
        have jr : ∀ (T130 : State) (h130 : Heap) (L130 : List Loc) (re : Int64), Stand p l e room_1 s mt args below meth cd T130 L130 2 15 → T130.heap = h130 → Fr n0 L130 → n0 ≤ h130.size → Exa Z h130 b67 "com/example/interleave/interleave/Tally" → Fld Z h130 b67 "com/example/interleave/interleave/Tally" "started" "J" (.long st) → Fld Z h130 b67 "com/example/interleave/interleave/Tally" "committed" "J" (.long (((0 : Int64) + (1 : Int64)) + (1 : Int64))) → Fld Z h130 b67 "com/example/interleave/interleave/Tally" "committedNanos" "J" (.long (((0 : Int64) + xx) + yy)) → Fld Z h130 b67 "com/example/interleave/interleave/Tally" "longestNanos" "J" (.long (own_maxL (own_maxL (0 : Int64) xx) yy)) → Fld Z h130 b67 "com/example/interleave/interleave/Tally" "retried" "J" (.long re) → Fld Z h130 b67 "com/example/interleave/interleave/Tally" "failed" "J" (.long fa) → Win p e below (Ends s (Q_law Z a b c f h0 n0) 2 15) T130 (mkF mt 95 #[.val (.long a), .second, .val (.long b), .second, .val (.long c), .second, .val (.int f), .val (.long xx), .second, .val (.long yy), .second, .val (.long zz), .second, .val (.int (3 : Int32)), .val (.ref b67), .unset, .unset, .unset, .unset] []) := by
          intro T130 h130 L130 re X130 e130 N130 Z130 f130_0 f130_1 f130_2 f130_3 f130_4 f130_5 f130_6
          refine Win.st ?_ (fun tq kq => XS.iload X130.here hx rfl (hb hby at_95) rfl kq)
          show Win p e below _ T130 (mkF mt 97 #[.val (.long a), .second, .val (.long b), .second, .val (.long c), .second, .val (.int f), .val (.long xx), .second, .val (.long yy), .second, .val (.long zz), .second, .val (.int (3 : Int32)), .val (.ref b67), .unset, .unset, .unset, .unset] [(.int (3 : Int32))])
          refine Win.st ?_ (fun tq kq => XS.iconst X130.here hx rfl (hb hby at_97) kq)
          show Win p e below _ T130 (mkF mt 98 #[.val (.long a), .second, .val (.long b), .second, .val (.long c), .second, .val (.int f), .val (.long xx), .second, .val (.long yy), .second, .val (.long zz), .second, .val (.int (3 : Int32)), .val (.ref b67), .unset, .unset, .unset, .unset] [(.int (3 : Int32)), (.int (3 : Int32))])
          refine Win.st ?_ (fun tq kq => XS.icmpNo X130.here hx rfl (hb hby at_98) rfl (flt (Int32.lt_irrefl)).1 kq)
          show Win p e below _ T130 (mkF mt 101 #[.val (.long a), .second, .val (.long b), .second, .val (.long c), .second, .val (.int f), .val (.long xx), .second, .val (.long yy), .second, .val (.long zz), .second, .val (.int (3 : Int32)), .val (.ref b67), .unset, .unset, .unset, .unset] [])
          refine Win.st ?_ (fun tq kq => XS.aload X130.here hx rfl (hb hby at_101) rfl rfl kq)
          show Win p e below _ T130 (mkF mt 103 #[.val (.long a), .second, .val (.long b), .second, .val (.long c), .second, .val (.int f), .val (.long xx), .second, .val (.long yy), .second, .val (.long zz), .second, .val (.int (3 : Int32)), .val (.ref b67), .unset, .unset, .unset, .unset] [(.ref b67)])
          refine Win.st ?_ (fun tq kq => XS.lload X130.here hx rfl (hb hby at_103) rfl kq)
          show Win p e below _ T130 (mkF mt 105 #[.val (.long a), .second, .val (.long b), .second, .val (.long c), .second, .val (.int f), .val (.long xx), .second, .val (.long yy), .second, .val (.long zz), .second, .val (.int (3 : Int32)), .val (.ref b67), .unset, .unset, .unset, .unset] [(.long zz), (.ref b67)])
          obtain ⟨cq131, kq131, q131a, q131b, q131c⟩ := isOf hZ e130 f130_0
          obtain ⟨v131, _, ⟨T131, L131, k131, n131⟩, -, X131, ⟨Lc131, hQ131, l131, y131, z131⟩, st131⟩ := X130.virtualBack hx (y := (⟨"com/example/interleave/interleave/Tally", "commit", "(J)V"⟩ : MethodName)) (z := (⟨"com/example/interleave/interleave/Tally", "commit", "(J)V"⟩ : MethodName)) hown (mvT hZ (hw _ (List.mem_of_getElem? (i := 27) rfl))) (mvT hZ (hw _ (List.mem_of_getElem? (i := 28) rfl))) (notFace_of_selects (args := #[]) (mvT hZ (hw _ (List.mem_of_getElem? (i := 30) rfl)))) (mvT hZ (hw _ (List.mem_of_getElem? (i := 30) rfl))) (mvT hZ (hw _ (List.mem_of_getElem? (i := 29) rfl))) (by decide) (backOf (W := 0) (rm_tcommit l Z a0 hw [] b67 zz st (((0 : Int64) + (1 : Int64)) + (1 : Int64)) (((0 : Int64) + xx) + yy) (own_maxL (own_maxL (0 : Int64) xx) yy) re fa h130 n0 Z130 f130_0 f130_1 f130_2 f130_3 f130_4 f130_5 f130_6 g68) hZ (hw _ (List.mem_of_getElem? (i := 31) rfl)) (hw _ (List.mem_of_getElem? (i := 2) rfl)) (by decide) (by decide)) q131a q131c (g := (mkF mt 105 #[.val (.long a), .second, .val (.long b), .second, .val (.long c), .second, .val (.int f), .val (.long xx), .second, .val (.long yy), .second, .val (.long zz), .second, .val (.int (3 : Int32)), .val (.ref b67), .unset, .unset, .unset, .unset] [(.long zz), (.ref b67)])) rfl (by rw [hml]; rfl) (Steps.refl _) (argsL := [(.long zz)]) (rest := []) (lenOf pd_3 rfl) rfl (by show 2 * 0 + _ ≤ _; exact Nat.le_of_eq rfl) (hb hby at_105) (fun _ _ => ⟨rfl, e130, (by decide : 2 + 0 ≤ _), (by decide : 15 + 0 ≤ _)⟩)
          dsimp only [Pt.U, Pt.locs, Pt.cells, Pt.slots] at X131 l131 y131 z131 st131 hQ131
          subst y131 z131
          replace X131 : Stand p l e _ s mt args below meth cd T131 L131 2 15 := X131
          obtain ⟨h131, e131⟩ : ∃ z, T131.heap = z := ⟨_, rfl⟩
          rw [e131] at hQ131
          obtain ⟨rfl, Nq131, K131, t131_st, t131_cm, t131_nn, t131_lo, t131_re, t131_fa⟩ := hQ131
          have N131 : Fr n0 L131 := by rw [l131]; exact Fr.app N130 Nq131
          have f132_689 := f130_0.keep K131
          have Z133 : n0 ≤ h131.size := Nat.le_trans Z130 K131.1
          refine Win.tr ?_ st131
          show Win p e below _ T131 (mkF mt 108 #[.val (.long a), .second, .val (.long b), .second, .val (.long c), .second, .val (.int f), .val (.long xx), .second, .val (.long yy), .second, .val (.long zz), .second, .val (.int (3 : Int32)), .val (.ref b67), .unset, .unset, .unset, .unset] [])
          refine Win.st ?_ (fun tq kq => XS.aload X131.here hx rfl (hb hby at_108) rfl rfl kq)
          show Win p e below _ T131 (mkF mt 110 #[.val (.long a), .second, .val (.long b), .second, .val (.long c), .second, .val (.int f), .val (.long xx), .second, .val (.long yy), .second, .val (.long zz), .second, .val (.int (3 : Int32)), .val (.ref b67), .unset, .unset, .unset, .unset] [(.ref b67)])
          obtain ⟨cq134, kq134, q134a, q134b, q134c⟩ := isOf hZ e131 f132_689
          obtain ⟨v134, _, ⟨T134, L134, k134, n134⟩, -, X134, ⟨Lc134, hQ134, l134, y134, z134⟩, st134⟩ := X131.virtualBack hx (y := (⟨"com/example/interleave/interleave/Tally", "averageNanos", "()J"⟩ : MethodName)) (z := (⟨"com/example/interleave/interleave/Tally", "averageNanos", "()J"⟩ : MethodName)) hown (mvT hZ (hw _ (List.mem_of_getElem? (i := 42) rfl))) (mvT hZ (hw _ (List.mem_of_getElem? (i := 43) rfl))) (notFace_of_selects (args := #[]) (mvT hZ (hw _ (List.mem_of_getElem? (i := 45) rfl)))) (mvT hZ (hw _ (List.mem_of_getElem? (i := 45) rfl))) (mvT hZ (hw _ (List.mem_of_getElem? (i := 44) rfl))) (by decide) (backOf (W := 0) (rm_tavg l Z a0 hw [] b67 ((((0 : Int64) + (1 : Int64)) + (1 : Int64)) + (1 : Int64)) ((((0 : Int64) + xx) + yy) + zz) h131 n0 Z133 t131_cm t131_nn) hZ (hw _ (List.mem_of_getElem? (i := 46) rfl)) (hw _ (List.mem_of_getElem? (i := 2) rfl)) (by decide) (by decide)) q134a q134c (g := (mkF mt 110 #[.val (.long a), .second, .val (.long b), .second, .val (.long c), .second, .val (.int f), .val (.long xx), .second, .val (.long yy), .second, .val (.long zz), .second, .val (.int (3 : Int32)), .val (.ref b67), .unset, .unset, .unset, .unset] [(.ref b67)])) rfl (by rw [hml]; rfl) (Steps.refl _) (argsL := []) (rest := []) (lenOf pd_2 rfl) rfl (by show 2 * 0 + _ ≤ _; exact Nat.le_of_eq rfl) (hb hby at_110) (fun _ _ => ⟨rfl, e131, (by decide : 2 + 0 ≤ _), (by decide : 15 + 0 ≤ _)⟩)
          dsimp only [Pt.U, Pt.locs, Pt.cells, Pt.slots] at X134 l134 y134 z134 st134 hQ134
          subst y134 z134
          replace X134 : Stand p l e _ s mt args below meth cd T134 L134 2 15 := X134
          obtain ⟨h134, e134⟩ : ∃ z, T134.heap = z := ⟨_, rfl⟩
          rw [e134] at hQ134
          obtain ⟨rfl, Nq134, eh134⟩ := hQ134
          have N134 : Fr n0 L134 := by rw [l134]; exact Fr.app N131 Nq134
          rw [eh134] at e134
          refine Win.tr ?_ st134
          show Win p e below _ T134 (mkF mt 113 #[.val (.long a), .second, .val (.long b), .second, .val (.long c), .second, .val (.int f), .val (.long xx), .second, .val (.long yy), .second, .val (.long zz), .second, .val (.int (3 : Int32)), .val (.ref b67), .unset, .unset, .unset, .unset] [(.long (own_avg ((((0 : Int64) + (1 : Int64)) + (1 : Int64)) + (1 : Int64)) ((((0 : Int64) + xx) + yy) + zz)))])
          refine Win.st ?_ (fun tq kq => XS.lstore X134.here hx rfl (hb hby at_113) rfl (l' := #[.val (.long a), .second, .val (.long b), .second, .val (.long c), .second, .val (.int f), .val (.long xx), .second, .val (.long yy), .second, .val (.long zz), .second, .val (.int (3 : Int32)), .val (.ref b67), .val (.long (own_avg ((((0 : Int64) + (1 : Int64)) + (1 : Int64)) + (1 : Int64)) ((((0 : Int64) + xx) + yy) + zz))), .second, .unset, .unset]) rfl kq)
          show Win p e below _ T134 (mkF mt 115 #[.val (.long a), .second, .val (.long b), .second, .val (.long c), .second, .val (.int f), .val (.long xx), .second, .val (.long yy), .second, .val (.long zz), .second, .val (.int (3 : Int32)), .val (.ref b67), .val (.long (own_avg ((((0 : Int64) + (1 : Int64)) + (1 : Int64)) + (1 : Int64)) ((((0 : Int64) + xx) + yy) + zz))), .second, .unset, .unset] [])
          refine Win.st ?_ (fun tq kq => XS.iload X134.here hx rfl (hb hby at_115) rfl kq)
          show Win p e below _ T134 (mkF mt 117 #[.val (.long a), .second, .val (.long b), .second, .val (.long c), .second, .val (.int f), .val (.long xx), .second, .val (.long yy), .second, .val (.long zz), .second, .val (.int (3 : Int32)), .val (.ref b67), .val (.long (own_avg ((((0 : Int64) + (1 : Int64)) + (1 : Int64)) + (1 : Int64)) ((((0 : Int64) + xx) + yy) + zz))), .second, .unset, .unset] [(.int (3 : Int32))])
          refine Win.st ?_ (fun tq kq => XS.ifYes X134.here hx rfl (pc0 := 117) (pc' := 126) rfl (hb hby at_117) rfl ((if0 _ _).trans (feq (by decide : ¬ ((3 : Int32) = (0 : Int32)))).2) (by decide) (by decide) kq)
          show Win p e below _ T134 (mkF mt 126 #[.val (.long a), .second, .val (.long b), .second, .val (.long c), .second, .val (.int f), .val (.long xx), .second, .val (.long yy), .second, .val (.long zz), .second, .val (.int (3 : Int32)), .val (.ref b67), .val (.long (own_avg ((((0 : Int64) + (1 : Int64)) + (1 : Int64)) + (1 : Int64)) ((((0 : Int64) + xx) + yy) + zz))), .second, .unset, .unset] [])
          refine Win.st ?_ (fun tq kq => XS.iload X134.here hx rfl (hb hby at_126) rfl kq)
          show Win p e below _ T134 (mkF mt 128 #[.val (.long a), .second, .val (.long b), .second, .val (.long c), .second, .val (.int f), .val (.long xx), .second, .val (.long yy), .second, .val (.long zz), .second, .val (.int (3 : Int32)), .val (.ref b67), .val (.long (own_avg ((((0 : Int64) + (1 : Int64)) + (1 : Int64)) + (1 : Int64)) ((((0 : Int64) + xx) + yy) + zz))), .second, .unset, .unset] [(.int (3 : Int32))])
          refine Win.st ?_ (fun tq kq => XS.iconst X134.here hx rfl (hb hby at_128) kq)
          show Win p e below _ T134 (mkF mt 129 #[.val (.long a), .second, .val (.long b), .second, .val (.long c), .second, .val (.int f), .val (.long xx), .second, .val (.long yy), .second, .val (.long zz), .second, .val (.int (3 : Int32)), .val (.ref b67), .val (.long (own_avg ((((0 : Int64) + (1 : Int64)) + (1 : Int64)) + (1 : Int64)) ((((0 : Int64) + xx) + yy) + zz))), .second, .unset, .unset] [(.int (1 : Int32)), (.int (3 : Int32))])
          refine Win.st ?_ (fun tq kq => XS.icmpYes X134.here hx rfl (pc0 := 129) (pc' := 139) rfl (hb hby at_129) rfl (feq (by decide : ¬ ((3 : Int32) = (1 : Int32)))).2 (by decide) (by decide) kq)
          show Win p e below _ T134 (mkF mt 139 #[.val (.long a), .second, .val (.long b), .second, .val (.long c), .second, .val (.int f), .val (.long xx), .second, .val (.long yy), .second, .val (.long zz), .second, .val (.int (3 : Int32)), .val (.ref b67), .val (.long (own_avg ((((0 : Int64) + (1 : Int64)) + (1 : Int64)) + (1 : Int64)) ((((0 : Int64) + xx) + yy) + zz))), .second, .unset, .unset] [])
          refine Win.st ?_ (fun tq kq => XS.iload X134.here hx rfl (hb hby at_139) rfl kq)
          show Win p e below _ T134 (mkF mt 141 #[.val (.long a), .second, .val (.long b), .second, .val (.long c), .second, .val (.int f), .val (.long xx), .second, .val (.long yy), .second, .val (.long zz), .second, .val (.int (3 : Int32)), .val (.ref b67), .val (.long (own_avg ((((0 : Int64) + (1 : Int64)) + (1 : Int64)) + (1 : Int64)) ((((0 : Int64) + xx) + yy) + zz))), .second, .unset, .unset] [(.int (3 : Int32))])
          refine Win.st ?_ (fun tq kq => XS.iconst X134.here hx rfl (hb hby at_141) kq)
          show Win p e below _ T134 (mkF mt 142 #[.val (.long a), .second, .val (.long b), .second, .val (.long c), .second, .val (.int f), .val (.long xx), .second, .val (.long yy), .second, .val (.long zz), .second, .val (.int (3 : Int32)), .val (.ref b67), .val (.long (own_avg ((((0 : Int64) + (1 : Int64)) + (1 : Int64)) + (1 : Int64)) ((((0 : Int64) + xx) + yy) + zz))), .second, .unset, .unset] [(.int (2 : Int32)), (.int (3 : Int32))])
          refine Win.st ?_ (fun tq kq => XS.icmpYes X134.here hx rfl (pc0 := 142) (pc' := 159) rfl (hb hby at_142) rfl (feq (by decide : ¬ ((3 : Int32) = (2 : Int32)))).2 (by decide) (by decide) kq)
          show Win p e below _ T134 (mkF mt 159 #[.val (.long a), .second, .val (.long b), .second, .val (.long c), .second, .val (.int f), .val (.long xx), .second, .val (.long yy), .second, .val (.long zz), .second, .val (.int (3 : Int32)), .val (.ref b67), .val (.long (own_avg ((((0 : Int64) + (1 : Int64)) + (1 : Int64)) + (1 : Int64)) ((((0 : Int64) + xx) + yy) + zz))), .second, .unset, .unset] [])
          refine Win.st ?_ (fun tq kq => XS.lload X134.here hx rfl (hb hby at_159) rfl kq)
          show Win p e below _ T134 (mkF mt 161 #[.val (.long a), .second, .val (.long b), .second, .val (.long c), .second, .val (.int f), .val (.long xx), .second, .val (.long yy), .second, .val (.long zz), .second, .val (.int (3 : Int32)), .val (.ref b67), .val (.long (own_avg ((((0 : Int64) + (1 : Int64)) + (1 : Int64)) + (1 : Int64)) ((((0 : Int64) + xx) + yy) + zz))), .second, .unset, .unset] [(.long xx)])
          refine Win.st ?_ (fun tq kq => XS.lload X134.here hx rfl (hb hby at_161) rfl kq)
          show Win p e below _ T134 (mkF mt 163 #[.val (.long a), .second, .val (.long b), .second, .val (.long c), .second, .val (.int f), .val (.long xx), .second, .val (.long yy), .second, .val (.long zz), .second, .val (.int (3 : Int32)), .val (.ref b67), .val (.long (own_avg ((((0 : Int64) + (1 : Int64)) + (1 : Int64)) + (1 : Int64)) ((((0 : Int64) + xx) + yy) + zz))), .second, .unset, .unset] [(.long yy), (.long xx)])
          refine Win.st ?_ (fun tq kq => XS.ladd X134.here hx rfl (hb hby at_163) rfl kq)
          show Win p e below _ T134 (mkF mt 164 #[.val (.long a), .second, .val (.long b), .second, .val (.long c), .second, .val (.int f), .val (.long xx), .second, .val (.long yy), .second, .val (.long zz), .second, .val (.int (3 : Int32)), .val (.ref b67), .val (.long (own_avg ((((0 : Int64) + (1 : Int64)) + (1 : Int64)) + (1 : Int64)) ((((0 : Int64) + xx) + yy) + zz))), .second, .unset, .unset] [(.long (xx + yy))])
          refine Win.st ?_ (fun tq kq => XS.lload X134.here hx rfl (hb hby at_164) rfl kq)
          show Win p e below _ T134 (mkF mt 166 #[.val (.long a), .second, .val (.long b), .second, .val (.long c), .second, .val (.int f), .val (.long xx), .second, .val (.long yy), .second, .val (.long zz), .second, .val (.int (3 : Int32)), .val (.ref b67), .val (.long (own_avg ((((0 : Int64) + (1 : Int64)) + (1 : Int64)) + (1 : Int64)) ((((0 : Int64) + xx) + yy) + zz))), .second, .unset, .unset] [(.long zz), (.long (xx + yy))])
          refine Win.st ?_ (fun tq kq => XS.ladd X134.here hx rfl (hb hby at_166) rfl kq)
          show Win p e below _ T134 (mkF mt 167 #[.val (.long a), .second, .val (.long b), .second, .val (.long c), .second, .val (.int f), .val (.long xx), .second, .val (.long yy), .second, .val (.long zz), .second, .val (.int (3 : Int32)), .val (.ref b67), .val (.long (own_avg ((((0 : Int64) + (1 : Int64)) + (1 : Int64)) + (1 : Int64)) ((((0 : Int64) + xx) + yy) + zz))), .second, .unset, .unset] [(.long ((xx + yy) + zz))])
          refine Win.st ?_ (X134.ldc2Long hx hown (mvT hZ (hw _ (List.mem_of_getElem? (i := 62) rfl))) (g := (mkF mt 167 #[.val (.long a), .second, .val (.long b), .second, .val (.long c), .second, .val (.int f), .val (.long xx), .second, .val (.long yy), .second, .val (.long zz), .second, .val (.int (3 : Int32)), .val (.ref b67), .val (.long (own_avg ((((0 : Int64) + (1 : Int64)) + (1 : Int64)) + (1 : Int64)) ((((0 : Int64) + xx) + yy) + zz))), .second, .unset, .unset] [(.long ((xx + yy) + zz))])) rfl (hb hby at_167))
          show Win p e below _ T134 (mkF mt 170 #[.val (.long a), .second, .val (.long b), .second, .val (.long c), .second, .val (.int f), .val (.long xx), .second, .val (.long yy), .second, .val (.long zz), .second, .val (.int (3 : Int32)), .val (.ref b67), .val (.long (own_avg ((((0 : Int64) + (1 : Int64)) + (1 : Int64)) + (1 : Int64)) ((((0 : Int64) + xx) + yy) + zz))), .second, .unset, .unset] [(.long (3 : Int64)), (.long ((xx + yy) + zz))])
          refine Win.st ?_ (fun tq kq => XS.ldiv X134.here hx rfl (hb hby at_170) rfl (by decide) kq)
          show Win p e below _ T134 (mkF mt 171 #[.val (.long a), .second, .val (.long b), .second, .val (.long c), .second, .val (.int f), .val (.long xx), .second, .val (.long yy), .second, .val (.long zz), .second, .val (.int (3 : Int32)), .val (.ref b67), .val (.long (own_avg ((((0 : Int64) + (1 : Int64)) + (1 : Int64)) + (1 : Int64)) ((((0 : Int64) + xx) + yy) + zz))), .second, .unset, .unset] [(.long (((xx + yy) + zz) / (3 : Int64)))])
          refine Win.st ?_ (fun tq kq => XS.lstore X134.here hx rfl (hb hby at_171) rfl (l' := #[.val (.long a), .second, .val (.long b), .second, .val (.long c), .second, .val (.int f), .val (.long xx), .second, .val (.long yy), .second, .val (.long zz), .second, .val (.int (3 : Int32)), .val (.ref b67), .val (.long (own_avg ((((0 : Int64) + (1 : Int64)) + (1 : Int64)) + (1 : Int64)) ((((0 : Int64) + xx) + yy) + zz))), .second, .val (.long (((xx + yy) + zz) / (3 : Int64))), .second]) rfl kq)
          show Win p e below _ T134 (mkF mt 173 #[.val (.long a), .second, .val (.long b), .second, .val (.long c), .second, .val (.int f), .val (.long xx), .second, .val (.long yy), .second, .val (.long zz), .second, .val (.int (3 : Int32)), .val (.ref b67), .val (.long (own_avg ((((0 : Int64) + (1 : Int64)) + (1 : Int64)) + (1 : Int64)) ((((0 : Int64) + xx) + yy) + zz))), .second, .val (.long (((xx + yy) + zz) / (3 : Int64))), .second] [])
          refine Win.st ?_ (fun tq kq => XS.lload X134.here hx rfl (hb hby at_173) rfl kq)
          show Win p e below _ T134 (mkF mt 175 #[.val (.long a), .second, .val (.long b), .second, .val (.long c), .second, .val (.int f), .val (.long xx), .second, .val (.long yy), .second, .val (.long zz), .second, .val (.int (3 : Int32)), .val (.ref b67), .val (.long (own_avg ((((0 : Int64) + (1 : Int64)) + (1 : Int64)) + (1 : Int64)) ((((0 : Int64) + xx) + yy) + zz))), .second, .val (.long (((xx + yy) + zz) / (3 : Int64))), .second] [(.long (own_avg ((((0 : Int64) + (1 : Int64)) + (1 : Int64)) + (1 : Int64)) ((((0 : Int64) + xx) + yy) + zz)))])
          refine Win.st ?_ (fun tq kq => XS.lload X134.here hx rfl (hb hby at_175) rfl kq)
          show Win p e below _ T134 (mkF mt 177 #[.val (.long a), .second, .val (.long b), .second, .val (.long c), .second, .val (.int f), .val (.long xx), .second, .val (.long yy), .second, .val (.long zz), .second, .val (.int (3 : Int32)), .val (.ref b67), .val (.long (own_avg ((((0 : Int64) + (1 : Int64)) + (1 : Int64)) + (1 : Int64)) ((((0 : Int64) + xx) + yy) + zz))), .second, .val (.long (((xx + yy) + zz) / (3 : Int64))), .second] [(.long (((xx + yy) + zz) / (3 : Int64))), (.long (own_avg ((((0 : Int64) + (1 : Int64)) + (1 : Int64)) + (1 : Int64)) ((((0 : Int64) + xx) + yy) + zz)))])
          refine Win.st ?_ (fun tq kq => XS.lcmp X134.here hx rfl (hb hby at_177) rfl kq)
          show Win p e below _ T134 (mkF mt 178 #[.val (.long a), .second, .val (.long b), .second, .val (.long c), .second, .val (.int f), .val (.long xx), .second, .val (.long yy), .second, .val (.long zz), .second, .val (.int (3 : Int32)), .val (.ref b67), .val (.long (own_avg ((((0 : Int64) + (1 : Int64)) + (1 : Int64)) + (1 : Int64)) ((((0 : Int64) + xx) + yy) + zz))), .second, .val (.long (((xx + yy) + zz) / (3 : Int64))), .second] [(.int (lcmpW (own_avg ((((0 : Int64) + (1 : Int64)) + (1 : Int64)) + (1 : Int64)) ((((0 : Int64) + xx) + yy) + zz)) (((xx + yy) + zz) / (3 : Int64))))])
          refine Win.st ?_ (fun tq kq => XS.ifNo X134.here hx rfl (hb hby at_178) rfl ((if0 _ _).trans (teq ((lw_eq _ _).mpr ((own_avgd _ _ (3 : Int64) (by decide) (by decide)).trans (by rw [Int64.zero_add])))).2) kq)
          show Win p e below _ T134 (mkF mt 181 #[.val (.long a), .second, .val (.long b), .second, .val (.long c), .second, .val (.int f), .val (.long xx), .second, .val (.long yy), .second, .val (.long zz), .second, .val (.int (3 : Int32)), .val (.ref b67), .val (.long (own_avg ((((0 : Int64) + (1 : Int64)) + (1 : Int64)) + (1 : Int64)) ((((0 : Int64) + xx) + yy) + zz))), .second, .val (.long (((xx + yy) + zz) / (3 : Int64))), .second] [])
          refine Win.st ?_ (fun tq kq => XS.iconst X134.here hx rfl (hb hby at_181) kq)
          show Win p e below _ T134 (mkF mt 182 #[.val (.long a), .second, .val (.long b), .second, .val (.long c), .second, .val (.int f), .val (.long xx), .second, .val (.long yy), .second, .val (.long zz), .second, .val (.int (3 : Int32)), .val (.ref b67), .val (.long (own_avg ((((0 : Int64) + (1 : Int64)) + (1 : Int64)) + (1 : Int64)) ((((0 : Int64) + xx) + yy) + zz))), .second, .val (.long (((xx + yy) + zz) / (3 : Int64))), .second] [(.int (1 : Int32))])
          refine Win.st ?_ (fun tq kq => XS.goto X134.here hx rfl (pc0 := 182) (pc' := 186) rfl (hb hby at_182) (by decide) (by decide) kq)
          show Win p e below _ T134 (mkF mt 186 #[.val (.long a), .second, .val (.long b), .second, .val (.long c), .second, .val (.int f), .val (.long xx), .second, .val (.long yy), .second, .val (.long zz), .second, .val (.int (3 : Int32)), .val (.ref b67), .val (.long (own_avg ((((0 : Int64) + (1 : Int64)) + (1 : Int64)) + (1 : Int64)) ((((0 : Int64) + xx) + yy) + zz))), .second, .val (.long (((xx + yy) + zz) / (3 : Int64))), .second] [(.int (1 : Int32))])
          exact Win.retN X134 hx hlk e134 (t := .boolean) (z' := (1 : Int32)) hrt (by simp) (hb hby at_186) (by decide) (by decide) rfl ⟨rfl, N134⟩
        by_cases hc87 : (f &&& (16 : Int32)) = (0 : Int32)
        · refine Win.st ?_ (fun tq kq => XS.ifYes X127.here hx rfl (pc0 := 87) (pc' := 95) rfl (hb hby at_87) rfl ((if0 _ _).trans (teq hc87).1) (by decide) (by decide) kq)
          show Win p e below _ T127 (mkF mt 95 #[.val (.long a), .second, .val (.long b), .second, .val (.long c), .second, .val (.int f), .val (.long xx), .second, .val (.long yy), .second, .val (.long zz), .second, .val (.int (3 : Int32)), .val (.ref b67), .unset, .unset, .unset, .unset] [])
          exact jr T127 h127 _ ((0 : Int64)) X127 e127 N127 Z129 f128_658 t127_st t127_cm t127_nn t127_lo t127_re t127_fa
        · refine Win.st ?_ (fun tq kq => XS.ifNo X127.here hx rfl (hb hby at_87) rfl ((if0 _ _).trans (feq hc87).1) kq)
          show Win p e below _ T127 (mkF mt 90 #[.val (.long a), .second, .val (.long b), .second, .val (.long c), .second, .val (.int f), .val (.long xx), .second, .val (.long yy), .second, .val (.long zz), .second, .val (.int (3 : Int32)), .val (.ref b67), .unset, .unset, .unset, .unset] [])
          refine Win.st ?_ (fun tq kq => XS.aload X127.here hx rfl (hb hby at_90) rfl rfl kq)
          show Win p e below _ T127 (mkF mt 92 #[.val (.long a), .second, .val (.long b), .second, .val (.long c), .second, .val (.int f), .val (.long xx), .second, .val (.long yy), .second, .val (.long zz), .second, .val (.int (3 : Int32)), .val (.ref b67), .unset, .unset, .unset, .unset] [(.ref b67)])
          obtain ⟨cq135, kq135, q135a, q135b, q135c⟩ := isOf hZ e127 f128_658
          obtain ⟨v135, _, ⟨T135, L135, k135, n135⟩, -, X135, ⟨Lc135, hQ135, l135, y135, z135⟩, st135⟩ := X127.virtualBack hx (y := (⟨"com/example/interleave/interleave/Tally", "retry", "()V"⟩ : MethodName)) (z := (⟨"com/example/interleave/interleave/Tally", "retry", "()V"⟩ : MethodName)) hown (mvT hZ (hw _ (List.mem_of_getElem? (i := 55) rfl))) (mvT hZ (hw _ (List.mem_of_getElem? (i := 56) rfl))) (notFace_of_selects (args := #[]) (mvT hZ (hw _ (List.mem_of_getElem? (i := 58) rfl)))) (mvT hZ (hw _ (List.mem_of_getElem? (i := 58) rfl))) (mvT hZ (hw _ (List.mem_of_getElem? (i := 57) rfl))) (by decide) (backOf (W := 0) (rm_tretry l Z a0 hw [] b67 st (((0 : Int64) + (1 : Int64)) + (1 : Int64)) (((0 : Int64) + xx) + yy) (own_maxL (own_maxL (0 : Int64) xx) yy) (0 : Int64) fa h127 n0 Z129 f128_658 t127_st t127_cm t127_nn t127_lo t127_re t127_fa g68) hZ (hw _ (List.mem_of_getElem? (i := 59) rfl)) (hw _ (List.mem_of_getElem? (i := 2) rfl)) (by decide) (by decide)) q135a q135c (g := (mkF mt 92 #[.val (.long a), .second, .val (.long b), .second, .val (.long c), .second, .val (.int f), .val (.long xx), .second, .val (.long yy), .second, .val (.long zz), .second, .val (.int (3 : Int32)), .val (.ref b67), .unset, .unset, .unset, .unset] [(.ref b67)])) rfl (by rw [hml]; rfl) (Steps.refl _) (argsL := []) (rest := []) (lenOf pd_0 rfl) rfl (by show 2 * 0 + _ ≤ _; exact Nat.le_of_eq rfl) (hb hby at_92) (fun _ _ => ⟨rfl, e127, (by decide : 2 + 0 ≤ _), (by decide : 15 + 0 ≤ _)⟩)
          dsimp only [Pt.U, Pt.locs, Pt.cells, Pt.slots] at X135 l135 y135 z135 st135 hQ135
          subst y135 z135
          replace X135 : Stand p l e _ s mt args below meth cd T135 L135 2 15 := X135
          obtain ⟨h135, e135⟩ : ∃ z, T135.heap = z := ⟨_, rfl⟩
          rw [e135] at hQ135
          obtain ⟨rfl, Nq135, K135, t135_st, t135_cm, t135_nn, t135_lo, t135_re, t135_fa⟩ := hQ135
          have N135 : Fr n0 L135 := by rw [l135]; exact Fr.app N127 Nq135
          have f136_771 := f128_658.keep K135
          have Z137 : n0 ≤ h135.size := Nat.le_trans Z129 K135.1
          refine Win.tr ?_ st135
          show Win p e below _ T135 (mkF mt 95 #[.val (.long a), .second, .val (.long b), .second, .val (.long c), .second, .val (.int f), .val (.long xx), .second, .val (.long yy), .second, .val (.long zz), .second, .val (.int (3 : Int32)), .val (.ref b67), .unset, .unset, .unset, .unset] [])
          exact jr T135 h135 _ (((0 : Int64) + (1 : Int64))) X135 e135 N135 Z137 f136_771 t135_st t135_cm t135_nn t135_lo t135_re t135_fa
      by_cases hc61 : (f &&& (8 : Int32)) = (0 : Int32)
      · refine Win.st ?_ (fun tq kq => XS.ifYes X123.here hx rfl (pc0 := 61) (pc' := 69) rfl (hb hby at_61) rfl ((if0 _ _).trans (teq hc61).1) (by decide) (by decide) kq)
        show Win p e below _ T123 (mkF mt 69 #[.val (.long a), .second, .val (.long b), .second, .val (.long c), .second, .val (.int f), .val (.long xx), .second, .val (.long yy), .second, .val (.long zz), .second, .val (.int (3 : Int32)), .val (.ref b67), .unset, .unset, .unset, .unset] [])
        exact jf T123 h123 _ ((0 : Int64)) X123 e123 N123 Z125 f124_627 t123_st t123_cm t123_nn t123_lo t123_re t123_fa
      · refine Win.st ?_ (fun tq kq => XS.ifNo X123.here hx rfl (hb hby at_61) rfl ((if0 _ _).trans (feq hc61).1) kq)
        show Win p e below _ T123 (mkF mt 64 #[.val (.long a), .second, .val (.long b), .second, .val (.long c), .second, .val (.int f), .val (.long xx), .second, .val (.long yy), .second, .val (.long zz), .second, .val (.int (3 : Int32)), .val (.ref b67), .unset, .unset, .unset, .unset] [])
        refine Win.st ?_ (fun tq kq => XS.aload X123.here hx rfl (hb hby at_64) rfl rfl kq)
        show Win p e below _ T123 (mkF mt 66 #[.val (.long a), .second, .val (.long b), .second, .val (.long c), .second, .val (.int f), .val (.long xx), .second, .val (.long yy), .second, .val (.long zz), .second, .val (.int (3 : Int32)), .val (.ref b67), .unset, .unset, .unset, .unset] [(.ref b67)])
        obtain ⟨cq138, kq138, q138a, q138b, q138c⟩ := isOf hZ e123 f124_627
        obtain ⟨v138, _, ⟨T138, L138, k138, n138⟩, -, X138, ⟨Lc138, hQ138, l138, y138, z138⟩, st138⟩ := X123.virtualBack hx (y := (⟨"com/example/interleave/interleave/Tally", "fail", "()V"⟩ : MethodName)) (z := (⟨"com/example/interleave/interleave/Tally", "fail", "()V"⟩ : MethodName)) hown (mvT hZ (hw _ (List.mem_of_getElem? (i := 63) rfl))) (mvT hZ (hw _ (List.mem_of_getElem? (i := 64) rfl))) (notFace_of_selects (args := #[]) (mvT hZ (hw _ (List.mem_of_getElem? (i := 66) rfl)))) (mvT hZ (hw _ (List.mem_of_getElem? (i := 66) rfl))) (mvT hZ (hw _ (List.mem_of_getElem? (i := 65) rfl))) (by decide) (backOf (W := 0) (rm_tfail l Z a0 hw [] b67 st ((0 : Int64) + (1 : Int64)) ((0 : Int64) + xx) (own_maxL (0 : Int64) xx) (0 : Int64) (0 : Int64) h123 n0 Z125 f124_627 t123_st t123_cm t123_nn t123_lo t123_re t123_fa g68) hZ (hw _ (List.mem_of_getElem? (i := 67) rfl)) (hw _ (List.mem_of_getElem? (i := 2) rfl)) (by decide) (by decide)) q138a q138c (g := (mkF mt 66 #[.val (.long a), .second, .val (.long b), .second, .val (.long c), .second, .val (.int f), .val (.long xx), .second, .val (.long yy), .second, .val (.long zz), .second, .val (.int (3 : Int32)), .val (.ref b67), .unset, .unset, .unset, .unset] [(.ref b67)])) rfl (by rw [hml]; rfl) (Steps.refl _) (argsL := []) (rest := []) (lenOf pd_0 rfl) rfl (by show 2 * 0 + _ ≤ _; exact Nat.le_of_eq rfl) (hb hby at_66) (fun _ _ => ⟨rfl, e123, (by decide : 2 + 0 ≤ _), (by decide : 15 + 0 ≤ _)⟩)
        dsimp only [Pt.U, Pt.locs, Pt.cells, Pt.slots] at X138 l138 y138 z138 st138 hQ138
        subst y138 z138
        replace X138 : Stand p l e _ s mt args below meth cd T138 L138 2 15 := X138
        obtain ⟨h138, e138⟩ : ∃ z, T138.heap = z := ⟨_, rfl⟩
        rw [e138] at hQ138
        obtain ⟨rfl, Nq138, K138, t138_st, t138_cm, t138_nn, t138_lo, t138_re, t138_fa⟩ := hQ138
        have N138 : Fr n0 L138 := by rw [l138]; exact Fr.app N123 Nq138
        have f139_793 := f124_627.keep K138
        have Z140 : n0 ≤ h138.size := Nat.le_trans Z125 K138.1
        refine Win.tr ?_ st138
        show Win p e below _ T138 (mkF mt 69 #[.val (.long a), .second, .val (.long b), .second, .val (.long c), .second, .val (.int f), .val (.long xx), .second, .val (.long yy), .second, .val (.long zz), .second, .val (.int (3 : Int32)), .val (.ref b67), .unset, .unset, .unset, .unset] [])
        exact jf T138 h138 _ (((0 : Int64) + (1 : Int64))) X138 e138 N138 Z140 f139_793 t138_st t138_cm t138_nn t138_lo t138_re t138_fa
    by_cases hc35 : (f &&& (4 : Int32)) = (0 : Int32)
    · refine Win.st ?_ (fun tq kq => XS.ifYes X71.here hx rfl (pc0 := 35) (pc' := 43) rfl (hb hby at_35) rfl ((if0 _ _).trans (teq hc35).1) (by decide) (by decide) kq)
      show Win p e below _ T71 (mkF mt 43 #[.val (.long a), .second, .val (.long b), .second, .val (.long c), .second, .val (.int f), .val (.long xx), .second, .val (.long yy), .second, .val (.long zz), .second, .val (.int (3 : Int32)), .val (.ref b67), .unset, .unset, .unset, .unset] [])
      exact js T71 h71 _ ((0 : Int64)) X71 e71 N71 Z73 f72_71 t71_st t71_cm t71_nn t71_lo t71_re t71_fa
    · refine Win.st ?_ (fun tq kq => XS.ifNo X71.here hx rfl (hb hby at_35) rfl ((if0 _ _).trans (feq hc35).1) kq)
      show Win p e below _ T71 (mkF mt 38 #[.val (.long a), .second, .val (.long b), .second, .val (.long c), .second, .val (.int f), .val (.long xx), .second, .val (.long yy), .second, .val (.long zz), .second, .val (.int (3 : Int32)), .val (.ref b67), .unset, .unset, .unset, .unset] [])
      refine Win.st ?_ (fun tq kq => XS.aload X71.here hx rfl (hb hby at_38) rfl rfl kq)
      show Win p e below _ T71 (mkF mt 40 #[.val (.long a), .second, .val (.long b), .second, .val (.long c), .second, .val (.int f), .val (.long xx), .second, .val (.long yy), .second, .val (.long zz), .second, .val (.int (3 : Int32)), .val (.ref b67), .unset, .unset, .unset, .unset] [(.ref b67)])
      obtain ⟨cq141, kq141, q141a, q141b, q141c⟩ := isOf hZ e71 f72_71
      obtain ⟨v141, _, ⟨T141, L141, k141, n141⟩, -, X141, ⟨Lc141, hQ141, l141, y141, z141⟩, st141⟩ := X71.virtualBack hx (y := (⟨"com/example/interleave/interleave/Tally", "start", "()V"⟩ : MethodName)) (z := (⟨"com/example/interleave/interleave/Tally", "start", "()V"⟩ : MethodName)) hown (mvT hZ (hw _ (List.mem_of_getElem? (i := 48) rfl))) (mvT hZ (hw _ (List.mem_of_getElem? (i := 49) rfl))) (notFace_of_selects (args := #[]) (mvT hZ (hw _ (List.mem_of_getElem? (i := 51) rfl)))) (mvT hZ (hw _ (List.mem_of_getElem? (i := 51) rfl))) (mvT hZ (hw _ (List.mem_of_getElem? (i := 50) rfl))) (by decide) (backOf (W := 0) (rm_tstart l Z a0 hw [] b67 (0 : Int64) (0 : Int64) (0 : Int64) (0 : Int64) (0 : Int64) (0 : Int64) h71 n0 Z73 f72_71 t71_st t71_cm t71_nn t71_lo t71_re t71_fa g68) hZ (hw _ (List.mem_of_getElem? (i := 52) rfl)) (hw _ (List.mem_of_getElem? (i := 2) rfl)) (by decide) (by decide)) q141a q141c (g := (mkF mt 40 #[.val (.long a), .second, .val (.long b), .second, .val (.long c), .second, .val (.int f), .val (.long xx), .second, .val (.long yy), .second, .val (.long zz), .second, .val (.int (3 : Int32)), .val (.ref b67), .unset, .unset, .unset, .unset] [(.ref b67)])) rfl (by rw [hml]; rfl) (Steps.refl _) (argsL := []) (rest := []) (lenOf pd_0 rfl) rfl (by show 2 * 0 + _ ≤ _; exact Nat.le_of_eq rfl) (hb hby at_40) (fun _ _ => ⟨rfl, e71, (by decide : 2 + 0 ≤ _), (by decide : 15 + 0 ≤ _)⟩)
      dsimp only [Pt.U, Pt.locs, Pt.cells, Pt.slots] at X141 l141 y141 z141 st141 hQ141
      subst y141 z141
      replace X141 : Stand p l e _ s mt args below meth cd T141 L141 2 15 := X141
      obtain ⟨h141, e141⟩ : ∃ z, T141.heap = z := ⟨_, rfl⟩
      rw [e141] at hQ141
      obtain ⟨rfl, Nq141, K141, t141_st, t141_cm, t141_nn, t141_lo, t141_re, t141_fa⟩ := hQ141
      have N141 : Fr n0 L141 := by rw [l141]; exact Fr.app N71 Nq141
      have f142_815 := f72_71.keep K141
      have Z143 : n0 ≤ h141.size := Nat.le_trans Z73 K141.1
      refine Win.tr ?_ st141
      show Win p e below _ T141 (mkF mt 43 #[.val (.long a), .second, .val (.long b), .second, .val (.long c), .second, .val (.int f), .val (.long xx), .second, .val (.long yy), .second, .val (.long zz), .second, .val (.int (3 : Int32)), .val (.ref b67), .unset, .unset, .unset, .unset] [])
      exact js T141 h141 _ (((0 : Int64) + (1 : Int64))) X141 e141 N141 Z143 f142_815 t141_st t141_cm t141_nn t141_lo t141_re t141_fa
set_option maxRecDepth 65536 in
set_option maxHeartbeats 40000000 in
theorem comes_1 {Post : Tables → Env → Array Value → State → Outcome → State → Prop} (hpost : ∀ tb e args s v u, (limb_1_1.after args s (.returned v) u = true ∧ limb_1_2.after args s (.returned v) u = true ∧ True) → FrameEnd s (.returned v) u (Jvm.fieldLocs frame_1_writes args s ++ Jvm.arrayLocs frame_1_arrays args s ++ Jvm.staticLocs frame_1_statics s) 16 128 → Post tb e args s (.returned v) u) :
    ArmFor flags0 classFile x code maxLocals ret World_1 tables_1 room_1 Calls_1 rest_1 Pre_1 Post := by
  intro l hfl _ _ p e ha hc hk s m args below hf hA hF happ hP
  obtain ⟨hcalls, hrest, hpre⟩ := hP
  obtain ⟨-, -, -, hnamed, -, -, -, hat⟩ := (Spec.applies_iff hf).mp happ
  obtain ⟨hg, hn⟩ := and_e (Cond.before_iff.mp (show (Jvm.Cond.and given_1 narrow_1).before args s = true from hpre))
  obtain ⟨ga0, gb0⟩ := and_e hg
  obtain ⟨ga1, gb1⟩ := and_e gb0
  obtain ⟨ga2, gb2⟩ := and_e gb1
  obtain ⟨ga3, gb3⟩ := and_e gb2
  obtain ⟨w0, w1, w2, w3, rfl⟩ : ∃ w0 w1 w2 w3 : Value, args = #[w0, w1, w2, w3] := by
    have hs : args.size = 4 := by simpa [Cond.value, given_1] using ga0
    obtain ⟨L⟩ := args
    match L, hs with
    | [w0, w1, w2, w3], _ => exact ⟨w0, w1, w2, w3, rfl⟩
  have hw := fun d (hd : d ∈ tables_1) => atoms_spec (ws := Jvm.Cond.code x code maxLocals ret :: tables_1) hat d (List.mem_cons_of_mem _ hd)
  have hfit : Fit s := fun {y c} hc i hi => by
    obtain ⟨ha, rfl⟩ := Array.getElem?_eq_some_iff.mp hc
    have q := List.all_eq_true.mp ((Array.all_eq_true_iff_forall_mem.mp hF) _ (Array.getElem_mem ha)) i (List.mem_range.mpr hi)
    simpa [Array.getElem?_eq_getElem hi] using q
  obtain ⟨i0, ei0⟩ := isL_v ga1
  obtain rfl : w0 = (.long i0) := Option.some.inj ei0
  obtain ⟨i1, ei1⟩ := isL_v ga2
  obtain rfl : w1 = (.long i1) := Option.some.inj ei1
  obtain ⟨i2, ei2⟩ := isL_v ga3
  obtain rfl : w2 = (.long i2) := Option.some.inj ei2
  obtain ⟨i3, ei3⟩ := is_v gb3
  obtain rfl : w3 = (.int i3) := Option.some.inj ei3
  obtain ⟨n, o, h1, h2, h3, _, L, rfl, ⟨rfl, N⟩, hq⟩ := rm_law l s _ hw tables_1 i0 i1 i2 i3  s.heap s.heap.size (Nat.le_refl _)  p e ha hc hk s m _ below hf ((Spec.applies_iff_loose hf).mp happ).1 ⟨rfl, State.Warmed39.refl s, rfl⟩ trivial
  refine ⟨n, _, h1, h2, h3, hpost _ _ _ _ _ _ ⟨Cond.after_iff.mpr rfl, Cond.after_iff.mpr (eq_i res_at (Term.int_eval (1)) rfl), trivial⟩ ⟨hq.1, hq.2.1, (hq.2.2.sift fun y hy => Or.inr (N y hy)).mono (by decide) (by decide)⟩⟩
theorem main_1_1 : Claimed_1_1 := comes_1 fun _ _ _ _ _ _ h hF => ⟨h.1, hF⟩
theorem main_1_2 : Claimed_1_2 := comes_1 fun _ _ _ _ _ _ h hF => ⟨h.2.1, hF⟩
end Jvm.Pilot.@@N@@
namespace Jvm.Pilot.@@N@@
open Jvm Jvm.ClassFile Sem Op Lib Jvm.Free Jvm.Stand Jvm.Pilot.@@N@@.Jvm.D
/-! MADE BY PROGRAM (witnessworld.py) out of the Statement's table words and the real class files: 13 classes; the members and pool entries that the words name. The judged class is class 1, her method 1. -/
namespace start1
open Jvm.ClassFile
def u (s : String) : CpInfo := .utf8 (stringToUtf16 s)
/-- a pool by its gaps: so many unusable entries, then the entry; so many at the end -/
def gap : Nat → List CpInfo → List CpInfo
  | 0, r => r
  | n + 1, r => .unusable :: gap n r
def poolList (es : List (Nat × CpInfo)) (last : Nat) : List CpInfo := es.foldr (fun e r => gap e.1 (e.2 :: r)) (gap last [])
def pool (es : List (Nat × CpInfo)) (last : Nat) : Array CpInfo := ⟨poolList es last⟩
def fileOf (pool : Array CpInfo) (this : Nat) (attrs : Array Attribute := #[]) (ms : Array MethodInfo := #[]) (fl : Nat := 33) (sup : Nat := 0) (ifs : Array Nat := #[]) (fds : Array FieldInfo := #[]) : ClassFile where
  minorVersion := 0
  majorVersion := 65
  constantPool := pool
  accessFlags := fl
  thisClass := this
  superClass := sup
  interfaces := ifs
  fields := fds
  methods := ms
  attributes := attrs
def plain (name : String) (sup : Option ClassId) : Class where
  name := name
  kind := .ordinary
  loader := none
  accessFlags := 33
  super := sup
  interfaces := #[]
  cf := none
  fields := #[]
  methods := #[]
  instanceTypes := #[]
  staticTypes := #[]
  resolved := #[]
  callSites := []
  init := .initialized
  statics := none
  mirror := none

def pool0 : Array CpInfo := pool [(5, u "<init>"), (0, u "()V"), (1, .class_ 10), (1, u "java/lang/Object")] 113

def k0c0 : Code := { maxStack := 0, maxLocals := 1, code := object_method_1_code, exceptionTable := #[], attributes := #[] }
def k0m0 : Method := { name := "<init>", desc := "()V", sig := { parameters := [], returnType := none }, accessFlags := 1, code := some k0c0 }
/-- java/lang/Object -/
def k0 : Class := { plain "java/lang/Object" none with
  accessFlags := 33
  interfaces := #[]
  cf := some (fileOf pool0 8 #[] #[{ accessFlags := 1, nameIndex := 5, descriptorIndex := 6, attributes := #[] }] 33 0 #[] #[])
  fields := #[]
  methods := #[k0m0]
  instanceTypes := #[]
  staticTypes := #[]
  resolved := Array.replicate 124 none
  statics := none }

def pool1 : Array CpInfo := pool [(2, .class_ 4), (0, .nameAndType 5 6), (0, u "java/lang/Object"), (0, u "<init>"), (0, u "()V"), (0, .class_ 8), (0, u "com/example/interleave/interleave/Tally"), (0, .methodref 7 3), (0, .methodref 7 11), (0, .nameAndType 12 6), (0, u "start"), (0, .methodref 7 14), (0, .nameAndType 15 16), (0, u "commit"), (0, u "(J)V"), (0, .methodref 7 18), (0, .nameAndType 19 6), (0, u "fail"), (0, .methodref 7 21), (0, .nameAndType 22 6), (0, u "retry"), (0, .methodref 7 24), (0, .nameAndType 25 26), (0, u "averageNanos"), (0, u "()J"), (0, .long 2), (1, .long 3), (1, .class_ 32), (0, u "com/example/interleave/interleave/TallyAverageNanosPinLaw"), (2, u "law"), (0, u "(JJJI)Z")] 3

def k1m0 : Method := { name := "<init>", desc := "()V", sig := { parameters := [], returnType := none }, accessFlags := 1, code := none }
def k1c1 : Code := { maxStack := 4, maxLocals := 19, code := code, exceptionTable := #[], attributes := #[] }
def k1m1 : Method := { name := "law", desc := "(JJJI)Z", sig := { parameters := [.long, .long, .long, .int], returnType := some .boolean }, accessFlags := 9, code := some k1c1 }
/-- com/example/interleave/interleave/TallyAverageNanosPinLaw -/
def k1 : Class := { plain "com/example/interleave/interleave/TallyAverageNanosPinLaw" (some 0) with
  accessFlags := 49
  interfaces := #[]
  cf := some (fileOf pool1 31 #[] #[{ accessFlags := 1, nameIndex := 5, descriptorIndex := 6, attributes := #[] }, { accessFlags := 9, nameIndex := 35, descriptorIndex := 36, attributes := #[] }] 49 2 #[] #[])
  fields := #[]
  methods := #[k1m0, k1m1]
  instanceTypes := #[]
  staticTypes := #[]
  resolved := Array.replicate 40 none
  statics := none }

def pool2 : Array CpInfo := pool [(1, .methodref 2 3), (0, .class_ 4), (0, .nameAndType 5 6), (0, u "java/lang/Object"), (0, u "<init>"), (0, u "()V"), (0, .class_ 8), (0, u "java/util/HashMap"), (0, .methodref 7 3), (0, .fieldref 11 12), (0, .class_ 13), (0, .nameAndType 14 15), (0, u "com/example/interleave/interleave/Tally"), (0, u "failures"), (0, u "Ljava/util/Map;"), (0, .fieldref 11 17), (0, .nameAndType 18 19), (0, u "started"), (0, u "J"), (0, .fieldref 11 21), (0, .nameAndType 22 19), (0, u "committed"), (0, .fieldref 11 24), (0, .nameAndType 25 19), (0, u "committedNanos"), (0, .fieldref 11 27), (0, .nameAndType 28 19), (0, u "longestNanos"), (0, .methodref 30 31), (0, .class_ 32), (0, .nameAndType 33 34), (0, u "java/lang/Math"), (0, u "max"), (0, u "(JJ)J"), (16, .fieldref 11 52), (0, .nameAndType 53 19), (0, u "retried"), (0, .fieldref 11 55), (0, .nameAndType 56 19), (0, u "failed"), (35, u "NAMED_FAILURES"), (0, u "Ljava/util/List;"), (51, u "CONFLICT"), (0, u "Ljava/lang/String;"), (1, u "CUT_SHORT"), (7, u "start"), (0, u "commit"), (0, u "(J)V"), (2, u "retry"), (0, u "fail"), (2, u "()J"), (2, u "averageNanos")] 28

def k2c0 : Code := { maxStack := 3, maxLocals := 1, code := prog_84_method_1_code, exceptionTable := #[], attributes := #[] }
def k2m0 : Method := { name := "<init>", desc := "()V", sig := { parameters := [], returnType := none }, accessFlags := 0, code := some k2c0 }
def k2c1 : Code := { maxStack := 5, maxLocals := 1, code := prog_84_method_2_code, exceptionTable := #[], attributes := #[] }
def k2m1 : Method := { name := "start", desc := "()V", sig := { parameters := [], returnType := none }, accessFlags := 0, code := some k2c1 }
def k2c2 : Code := { maxStack := 5, maxLocals := 3, code := prog_84_method_3_code, exceptionTable := #[], attributes := #[] }
def k2m2 : Method := { name := "commit", desc := "(J)V", sig := { parameters := [.long], returnType := none }, accessFlags := 0, code := some k2c2 }
def k2c3 : Code := { maxStack := 5, maxLocals := 1, code := prog_84_method_5_code, exceptionTable := #[], attributes := #[] }
def k2m3 : Method := { name := "retry", desc := "()V", sig := { parameters := [], returnType := none }, accessFlags := 0, code := some k2c3 }
def k2c4 : Code := { maxStack := 5, maxLocals := 1, code := prog_84_method_6_code, exceptionTable := #[], attributes := #[] }
def k2m4 : Method := { name := "fail", desc := "()V", sig := { parameters := [], returnType := none }, accessFlags := 0, code := some k2c4 }
def k2c5 : Code := { maxStack := 4, maxLocals := 1, code := prog_84_method_13_code, exceptionTable := #[], attributes := #[] }
def k2m5 : Method := { name := "averageNanos", desc := "()J", sig := { parameters := [], returnType := some .long }, accessFlags := 0, code := some k2c5 }
/-- com/example/interleave/interleave/Tally -/
def k2 : Class := { plain "com/example/interleave/interleave/Tally" (some 0) with
  accessFlags := 48
  interfaces := #[]
  cf := some (fileOf pool2 11 #[] #[{ accessFlags := 0, nameIndex := 5, descriptorIndex := 6, attributes := #[] }, { accessFlags := 0, nameIndex := 156, descriptorIndex := 6, attributes := #[] }, { accessFlags := 0, nameIndex := 157, descriptorIndex := 158, attributes := #[] }, { accessFlags := 0, nameIndex := 161, descriptorIndex := 6, attributes := #[] }, { accessFlags := 0, nameIndex := 162, descriptorIndex := 6, attributes := #[] }, { accessFlags := 0, nameIndex := 168, descriptorIndex := 165, attributes := #[] }] 48 2 #[] #[{ accessFlags := 24, nameIndex := 145, descriptorIndex := 146, attributes := #[] }, { accessFlags := 24, nameIndex := 148, descriptorIndex := 146, attributes := #[] }, { accessFlags := 26, nameIndex := 92, descriptorIndex := 93, attributes := #[] }, { accessFlags := 2, nameIndex := 18, descriptorIndex := 19, attributes := #[] }, { accessFlags := 2, nameIndex := 22, descriptorIndex := 19, attributes := #[] }, { accessFlags := 2, nameIndex := 56, descriptorIndex := 19, attributes := #[] }, { accessFlags := 2, nameIndex := 53, descriptorIndex := 19, attributes := #[] }, { accessFlags := 2, nameIndex := 25, descriptorIndex := 19, attributes := #[] }, { accessFlags := 2, nameIndex := 28, descriptorIndex := 19, attributes := #[] }, { accessFlags := 18, nameIndex := 14, descriptorIndex := 15, attributes := #[] }])
  fields := #[{ name := "CONFLICT", type := (.object "java/lang/String"), accessFlags := 24, slot := 0, constantValue := 0 }, { name := "CUT_SHORT", type := (.object "java/lang/String"), accessFlags := 24, slot := 1, constantValue := 0 }, { name := "NAMED_FAILURES", type := (.object "java/util/List"), accessFlags := 26, slot := 2, constantValue := 0 }, { name := "started", type := .long, accessFlags := 2, slot := 0, constantValue := 0 }, { name := "committed", type := .long, accessFlags := 2, slot := 1, constantValue := 0 }, { name := "failed", type := .long, accessFlags := 2, slot := 2, constantValue := 0 }, { name := "retried", type := .long, accessFlags := 2, slot := 3, constantValue := 0 }, { name := "committedNanos", type := .long, accessFlags := 2, slot := 4, constantValue := 0 }, { name := "longestNanos", type := .long, accessFlags := 2, slot := 5, constantValue := 0 }, { name := "failures", type := (.object "java/util/Map"), accessFlags := 18, slot := 6, constantValue := 0 }]
  methods := #[k2m0, k2m1, k2m2, k2m3, k2m4, k2m5]
  instanceTypes := #[.long, .long, .long, .long, .long, .long, (.object "java/util/Map")]
  staticTypes := #[(.object "java/lang/String"), (.object "java/lang/String"), (.object "java/util/List")]
  resolved := Array.replicate 197 none
  statics := none }

def pool3 : Array CpInfo := pool [(2, .class_ 4), (1, u "java/util/Map"), (31, .class_ 37), (0, u "java/util/Map$Entry"), (55, .class_ 94), (0, u "java/lang/Object")] 168

/-- java/util/Map -/
def k3 : Class := { plain "java/util/Map" (some 0) with
  accessFlags := 1537
  interfaces := #[]
  cf := some (fileOf pool3 2 #[.nestMembers #[36]] #[] 1537 93 #[] #[])
  fields := #[]
  methods := #[]
  instanceTypes := #[]
  staticTypes := #[]
  resolved := Array.replicate 263 none
  statics := none }

def pool4 : Array CpInfo := pool [(1, .methodref 2 3), (0, .class_ 4), (0, .nameAndType 5 6), (0, u "java/lang/Object"), (0, u "<init>"), (0, u "()V"), (1, .class_ 10), (1, u "java/util/AbstractMap"), (42, .class_ 54), (0, u "java/util/Map"), (9, u "keySet"), (0, u "Ljava/util/Set;"), (0, .class_ 67), (0, u "java/util/AbstractMap$1"), (5, u "values"), (0, u "Ljava/util/Collection;"), (0, .class_ 76), (0, u "java/util/AbstractMap$2"), (104, .class_ 182), (0, u "java/util/AbstractMap$ViewCollection"), (0, .class_ 184), (0, u "java/util/AbstractMap$SimpleImmutableEntry"), (0, .class_ 186), (0, u "java/util/AbstractMap$SimpleEntry"), (0, .class_ 188), (0, u "java/util/AbstractMap$2$1"), (0, .class_ 190), (0, u "java/util/AbstractMap$1$1")] 5

def k4c0 : Code := { maxStack := 1, maxLocals := 1, code := jdk_71_method_1_code, exceptionTable := #[], attributes := #[] }
def k4m0 : Method := { name := "<init>", desc := "()V", sig := { parameters := [], returnType := none }, accessFlags := 4, code := some k4c0 }
/-- java/util/AbstractMap -/
def k4 : Class := { plain "java/util/AbstractMap" (some 0) with
  accessFlags := 1057
  interfaces := #[3]
  cf := some (fileOf pool4 8 #[.nestMembers #[181, 183, 185, 75, 187, 66, 189]] #[{ accessFlags := 4, nameIndex := 5, descriptorIndex := 6, attributes := #[] }] 1057 2 #[53] #[{ accessFlags := 128, nameIndex := 64, descriptorIndex := 65, attributes := #[] }, { accessFlags := 128, nameIndex := 73, descriptorIndex := 74, attributes := #[] }])
  fields := #[{ name := "keySet", type := (.object "java/util/Set"), accessFlags := 128, slot := 0, constantValue := 0 }, { name := "values", type := (.object "java/util/Collection"), accessFlags := 128, slot := 1, constantValue := 0 }]
  methods := #[k4m0]
  instanceTypes := #[(.object "java/util/Set"), (.object "java/util/Collection")]
  staticTypes := #[]
  resolved := Array.replicate 196 none
  statics := none }

def pool5 : Array CpInfo := pool [(1, .class_ 2), (0, u "java/lang/Cloneable"), (0, .class_ 4), (0, u "java/lang/Object")] 2

/-- java/lang/Cloneable -/
def k5 : Class := { plain "java/lang/Cloneable" (some 0) with
  accessFlags := 1537
  interfaces := #[]
  cf := some (fileOf pool5 1 #[] #[] 1537 3 #[] #[])
  fields := #[]
  methods := #[]
  instanceTypes := #[]
  staticTypes := #[]
  resolved := Array.replicate 7 none
  statics := none }

def pool6 : Array CpInfo := pool [(1, .class_ 2), (0, u "java/io/Serializable"), (0, .class_ 4), (0, u "java/lang/Object")] 2

/-- java/io/Serializable -/
def k6 : Class := { plain "java/io/Serializable" (some 0) with
  accessFlags := 1537
  interfaces := #[]
  cf := some (fileOf pool6 1 #[] #[] 1537 3 #[] #[])
  fields := #[]
  methods := #[]
  instanceTypes := #[]
  staticTypes := #[]
  resolved := Array.replicate 7 none
  statics := none }

def pool7 : Array CpInfo := pool [(40, .class_ 41), (0, u "java/util/HashMap"), (1, .methodref 44 45), (0, .class_ 46), (0, .nameAndType 47 48), (0, u "java/util/AbstractMap"), (0, u "<init>"), (0, u "()V"), (32, .fieldref 40 82), (0, .nameAndType 83 84), (0, u "loadFactor"), (0, u "F"), (5, u "threshold"), (0, u "I"), (0, .float 1061158912), (8, .class_ 103), (1, u "java/util/Map"), (0, u "size"), (2, u "table"), (0, u "[Ljava/util/HashMap$Node;"), (14, u "entrySet"), (39, .class_ 165), (1, u "java/util/HashMap$Node"), (14, .class_ 181), (0, u "java/util/HashMap$TreeNode"), (22, u "modCount"), (37, u "Ljava/util/Set;"), (0, .class_ 244), (0, u "java/util/HashMap$KeySet"), (18, .class_ 264), (0, u "java/util/HashMap$Values"), (3, .class_ 269), (0, u "java/util/HashMap$EntrySet"), (76, .class_ 348), (1, u "java/util/HashMap$UnsafeHolder"), (43, .class_ 393), (0, u "java/lang/Cloneable"), (0, .class_ 395), (0, u "java/io/Serializable"), (0, u "serialVersionUID"), (0, u "J"), (3, u "DEFAULT_INITIAL_CAPACITY"), (1, u "MAXIMUM_CAPACITY"), (0, u "DEFAULT_LOAD_FACTOR"), (0, u "TREEIFY_THRESHOLD"), (1, u "UNTREEIFY_THRESHOLD"), (1, u "MIN_TREEIFY_CAPACITY"), (186, .class_ 597), (0, u "java/util/HashMap$EntrySpliterator"), (0, .class_ 599), (0, u "java/util/HashMap$ValueSpliterator"), (0, .class_ 601), (0, u "java/util/HashMap$KeySpliterator"), (0, .class_ 603), (0, u "java/util/HashMap$HashMapSpliterator"), (0, .class_ 605), (0, u "java/util/HashMap$EntryIterator"), (0, .class_ 607), (0, u "java/util/HashMap$ValueIterator"), (0, .class_ 609), (0, u "java/util/HashMap$KeyIterator"), (0, .class_ 611), (0, u "java/util/HashMap$HashIterator")] 17

def k7c0 : Code := { maxStack := 2, maxLocals := 1, code := jdk_69_method_7_code, exceptionTable := #[], attributes := #[] }
def k7m0 : Method := { name := "<init>", desc := "()V", sig := { parameters := [], returnType := none }, accessFlags := 1, code := some k7c0 }
/-- java/util/HashMap -/
def k7 : Class := { plain "java/util/HashMap" (some 4) with
  accessFlags := 33
  interfaces := #[3, 5, 6]
  cf := some (fileOf pool7 40 #[.nestMembers #[180, 596, 598, 600, 602, 604, 606, 608, 610, 346, 268, 263, 243, 163]] #[{ accessFlags := 1, nameIndex := 47, descriptorIndex := 48, attributes := #[] }] 33 44 #[101, 392, 394] #[{ accessFlags := 26, nameIndex := 396, descriptorIndex := 397, attributes := #[] }, { accessFlags := 24, nameIndex := 401, descriptorIndex := 91, attributes := #[] }, { accessFlags := 24, nameIndex := 403, descriptorIndex := 91, attributes := #[] }, { accessFlags := 24, nameIndex := 404, descriptorIndex := 84, attributes := #[] }, { accessFlags := 24, nameIndex := 405, descriptorIndex := 91, attributes := #[] }, { accessFlags := 24, nameIndex := 407, descriptorIndex := 91, attributes := #[] }, { accessFlags := 24, nameIndex := 409, descriptorIndex := 91, attributes := #[] }, { accessFlags := 128, nameIndex := 107, descriptorIndex := 108, attributes := #[] }, { accessFlags := 128, nameIndex := 123, descriptorIndex := 242, attributes := #[] }, { accessFlags := 128, nameIndex := 104, descriptorIndex := 91, attributes := #[] }, { accessFlags := 128, nameIndex := 204, descriptorIndex := 91, attributes := #[] }, { accessFlags := 0, nameIndex := 90, descriptorIndex := 91, attributes := #[] }, { accessFlags := 16, nameIndex := 83, descriptorIndex := 84, attributes := #[] }])
  fields := #[{ name := "serialVersionUID", type := .long, accessFlags := 26, slot := 0, constantValue := 0 }, { name := "DEFAULT_INITIAL_CAPACITY", type := .int, accessFlags := 24, slot := 1, constantValue := 0 }, { name := "MAXIMUM_CAPACITY", type := .int, accessFlags := 24, slot := 2, constantValue := 0 }, { name := "DEFAULT_LOAD_FACTOR", type := .float, accessFlags := 24, slot := 3, constantValue := 0 }, { name := "TREEIFY_THRESHOLD", type := .int, accessFlags := 24, slot := 4, constantValue := 0 }, { name := "UNTREEIFY_THRESHOLD", type := .int, accessFlags := 24, slot := 5, constantValue := 0 }, { name := "MIN_TREEIFY_CAPACITY", type := .int, accessFlags := 24, slot := 6, constantValue := 0 }, { name := "table", type := (.array (.object "java/util/HashMap$Node")), accessFlags := 128, slot := 2, constantValue := 0 }, { name := "entrySet", type := (.object "java/util/Set"), accessFlags := 128, slot := 3, constantValue := 0 }, { name := "size", type := .int, accessFlags := 128, slot := 4, constantValue := 0 }, { name := "modCount", type := .int, accessFlags := 128, slot := 5, constantValue := 0 }, { name := "threshold", type := .int, accessFlags := 0, slot := 6, constantValue := 0 }, { name := "loadFactor", type := .float, accessFlags := 16, slot := 7, constantValue := 0 }]
  methods := #[k7m0]
  instanceTypes := #[(.object "java/util/Set"), (.object "java/util/Collection"), (.array (.object "java/util/HashMap$Node")), (.object "java/util/Set"), .int, .int, .int, .float]
  staticTypes := #[.long, .int, .int, .float, .int, .int, .int]
  resolved := Array.replicate 629 none
  statics := none }

def pool8 : Array CpInfo := pool [(1, .class_ 2), (0, u "java/lang/Math"), (1, .class_ 6), (1, u "java/lang/Object"), (0, u "<init>"), (0, u "()V"), (89, .class_ 100), (1, u "java/lang/Math$RandomNumberGeneratorHolder"), (20, u "(JJ)J"), (50, u "negativeZeroFloatBits"), (0, u "J"), (2, u "negativeZeroDoubleBits"), (21, u "max"), (46, u "$assertionsDisabled"), (0, u "Z"), (91, u "twoToTheDoubleScaleDown"), (0, u "D"), (4, u "twoToTheDoubleScaleUp"), (9, u "E"), (3, u "PI"), (2, u "TAU"), (2, u "DEGREES_TO_RADIANS"), (0, u "RADIANS_TO_DEGREES")] 94

def k8m0 : Method := { name := "<init>", desc := "()V", sig := { parameters := [], returnType := none }, accessFlags := 2, code := none }
def k8c1 : Code := { maxStack := 4, maxLocals := 4, code := jdk_29_method_66_code, exceptionTable := #[], attributes := #[] }
def k8m1 : Method := { name := "max", desc := "(JJ)J", sig := { parameters := [.long, .long], returnType := some .long }, accessFlags := 9, code := some k8c1 }
/-- java/lang/Math -/
def k8 : Class := { plain "java/lang/Math" (some 0) with
  accessFlags := 49
  interfaces := #[]
  cf := some (fileOf pool8 1 #[.nestMembers #[98]] #[{ accessFlags := 2, nameIndex := 7, descriptorIndex := 8, attributes := #[] }, { accessFlags := 9, nameIndex := 198, descriptorIndex := 121, attributes := #[] }] 49 4 #[] #[{ accessFlags := 25, nameIndex := 354, descriptorIndex := 339, attributes := #[] }, { accessFlags := 25, nameIndex := 358, descriptorIndex := 339, attributes := #[] }, { accessFlags := 25, nameIndex := 361, descriptorIndex := 339, attributes := #[] }, { accessFlags := 26, nameIndex := 364, descriptorIndex := 339, attributes := #[] }, { accessFlags := 26, nameIndex := 365, descriptorIndex := 339, attributes := #[] }, { accessFlags := 26, nameIndex := 172, descriptorIndex := 173, attributes := #[] }, { accessFlags := 26, nameIndex := 176, descriptorIndex := 173, attributes := #[] }, { accessFlags := 8, nameIndex := 344, descriptorIndex := 339, attributes := #[] }, { accessFlags := 8, nameIndex := 338, descriptorIndex := 339, attributes := #[] }, { accessFlags := 4120, nameIndex := 245, descriptorIndex := 246, attributes := #[] }])
  fields := #[{ name := "E", type := .double, accessFlags := 25, slot := 0, constantValue := 0 }, { name := "PI", type := .double, accessFlags := 25, slot := 1, constantValue := 0 }, { name := "TAU", type := .double, accessFlags := 25, slot := 2, constantValue := 0 }, { name := "DEGREES_TO_RADIANS", type := .double, accessFlags := 26, slot := 3, constantValue := 0 }, { name := "RADIANS_TO_DEGREES", type := .double, accessFlags := 26, slot := 4, constantValue := 0 }, { name := "negativeZeroFloatBits", type := .long, accessFlags := 26, slot := 5, constantValue := 0 }, { name := "negativeZeroDoubleBits", type := .long, accessFlags := 26, slot := 6, constantValue := 0 }, { name := "twoToTheDoubleScaleUp", type := .double, accessFlags := 8, slot := 7, constantValue := 0 }, { name := "twoToTheDoubleScaleDown", type := .double, accessFlags := 8, slot := 8, constantValue := 0 }, { name := "$assertionsDisabled", type := .boolean, accessFlags := 4120, slot := 9, constantValue := 0 }]
  methods := #[k8m0, k8m1]
  instanceTypes := #[]
  staticTypes := #[.double, .double, .double, .double, .double, .long, .long, .double, .double, .boolean]
  resolved := Array.replicate 460 none
  statics := none }

/-- the primitive byte -/
def k9 : Class := { plain "byte" none with kind := .primitive 'B', accessFlags := 0x411 }
/-- [B -/
def k10 : Class := { plain "[B" (some 0) with kind := .array 9 .byte, interfaces := #[5, 6], accessFlags := 1041 }

/-- the primitive int -/
def k11 : Class := { plain "int" none with kind := .primitive 'I', accessFlags := 0x411 }
/-- [I -/
def k12 : Class := { plain "[I" (some 0) with kind := .array 11 .int, interfaces := #[5, 6], accessFlags := 1041 }

def heap : Heap := #[]
def classes : Array Class := #[k0, k1, k2, k3, k4, k5, k6, k7, k8, k9, k10, k11, k12]
def interned : List (Array UInt16 × Addr) := []
def slotsUsed : Nat := 0
def theMethod : MethodId := ⟨1, 1⟩
def args0 : Array Value := #[.long 5, .long 6, .long 7, .int 8]
def aboutOver (below : List Frame) : State where
  vm := { classes := classes, interned := interned.toArray }
  heap := heap
  slotsUsed := slotsUsed
  threads := #[{ frames := .invoking theMethod args0 :: below }]
def below0 : List Frame := [.native { method := ⟨0, 0⟩, args := #[] }]
def about1 : State := aboutOver below0
def p0 : Program := .bare "" "" ""
def e0 : Env := launch0.env 0 0 0
theorem w_frames : about1.frames = Frame.invoking theMethod args0 :: below0 := rfl
set_option maxRecDepth 65536 in
theorem w_args : argsFit about1.vm theMethod args0 = true := by decide +kernel
set_option maxRecDepth 65536 in
theorem w_heap : heapFits about1 = true := by decide +kernel
set_option maxRecDepth 65536 in
theorem w_runnable : about1.curStatus? = some .runnable := by decide +kernel
set_option maxRecDepth 65536 in
theorem w_alone : about1.alone = true := by decide +kernel
set_option maxRecDepth 65536 in
theorem w_named : about1.methodNamed? x = some theMethod := by decide +kernel
set_option maxRecDepth 65536 in
theorem w_hears : about1.hears theMethod below0 = true := by decide +kernel
set_option maxRecDepth 65536 in
theorem w_ripe : about1.ripe theMethod args0 below0 = true := by decide +kernel
theorem w_running : about1.status = .running := rfl
set_option maxRecDepth 65536 in
theorem w_room : about1.hasRoom e0.platform room_1 = true :=
  launch0.hasRoom_least _ room_1 (by decide +kernel) (by decide +kernel) (by decide +kernel) (by decide +kernel) (by decide +kernel) (by decide +kernel)
theorem allAtoms_all (ts : List Jvm.Cond) (a : Array Jvm.Value) (st : Jvm.State) : (allAtoms ts).before a st = ts.all (fun c => c.before a st) := by
  induction ts with
  | nil => rfl
  | cons c t ih =>
    show (Jvm.Cond.and c (allAtoms t)).before a st = _
    rw [Jvm.Cond.before_and, ih, List.all_cons]
def words1 : List Jvm.Cond := Jvm.Cond.code x code maxLocals ret :: tables_1
/-- a 'code' word, met by the world's own term for the bytes: nothing is compared byte by byte -/
theorem code_word {y : MethodName} {bytes : ByteArray} {mx : Nat} {rt : Option FieldType} {a : Array Value} {s : State} {m : MethodId} {meth : Method} {c : Code} (h1 : s.methodNamed? y = some m) (h2 : s.vm.method? m = some meth) (h3 : meth.code = some c) (h4 : c.code = bytes)
    (h5 : (c.maxLocals == mx && c.exceptionTable.isEmpty && decide (c.maxStack ≤ mostOperands) && decide (meth.sig.returnType = rt) && !meth.locks && decide (parseMethodDescriptor y.desc = some meth.sig)) = true) : (Jvm.Cond.code y bytes mx rt).before a s = true := by
  simp only [Bool.and_eq_true, beq_iff_eq, Bool.not_eq_true', decide_eq_true_eq] at h5
  obtain ⟨⟨⟨⟨⟨g1, g2⟩, g3⟩, g4⟩, g5⟩, g6⟩ := h5
  simp [Cond.before, Cond.holds, Cond.value, h1, h2, h3, h4, g1, g2, g3, g4, g5, g6]
def isCode : Jvm.Cond → Bool
  | .code _ _ _ _ => true
  | _ => false
theorem all_split {L : List Jvm.Cond} {P : Jvm.Cond → Bool} (h1 : L.all (fun c => isCode c || P c) = true) (h2 : ∀ c ∈ L.filter isCode, P c = true) : L.all P = true := by
  refine List.all_eq_true.mpr fun c hc => ?_
  have h := List.all_eq_true.mp h1 c hc
  rcases Bool.eq_false_or_eq_true (isCode c) with hi | hi
  · exact h2 c (List.mem_filter.mpr ⟨hc, hi⟩)
  · simpa [hi] using h
set_option maxRecDepth 65536 in
theorem w_c0 : (Jvm.Cond.code x code maxLocals ret).before args0 about1 = true := code_word (m := ⟨1, 1⟩) (meth := k1m1) (c := k1c1) (by decide +kernel) rfl rfl rfl (by decide +kernel)
set_option maxRecDepth 65536 in
theorem w_c1 : (Jvm.Cond.code ({ cls := "com/example/interleave/interleave/Tally", name := "<init>", desc := "()V" } : Jvm.MethodName) prog_84_method_1_code (1 : Nat) (Option.none : Option Jvm.ClassFile.FieldType)).before args0 about1 = true := code_word (m := ⟨2, 0⟩) (meth := k2m0) (c := k2c0) (by decide +kernel) rfl rfl rfl (by decide +kernel)
set_option maxRecDepth 65536 in
theorem w_c2 : (Jvm.Cond.code ({ cls := "java/lang/Object", name := "<init>", desc := "()V" } : Jvm.MethodName) object_method_1_code (1 : Nat) (Option.none : Option Jvm.ClassFile.FieldType)).before args0 about1 = true := code_word (m := ⟨0, 0⟩) (meth := k0m0) (c := k0c0) (by decide +kernel) rfl rfl rfl (by decide +kernel)
set_option maxRecDepth 65536 in
theorem w_c3 : (Jvm.Cond.code ({ cls := "java/util/HashMap", name := "<init>", desc := "()V" } : Jvm.MethodName) jdk_69_method_7_code (1 : Nat) (Option.none : Option Jvm.ClassFile.FieldType)).before args0 about1 = true := code_word (m := ⟨7, 0⟩) (meth := k7m0) (c := k7c0) (by decide +kernel) rfl rfl rfl (by decide +kernel)
set_option maxRecDepth 65536 in
theorem w_c4 : (Jvm.Cond.code ({ cls := "java/util/AbstractMap", name := "<init>", desc := "()V" } : Jvm.MethodName) jdk_71_method_1_code (1 : Nat) (Option.none : Option Jvm.ClassFile.FieldType)).before args0 about1 = true := code_word (m := ⟨4, 0⟩) (meth := k4m0) (c := k4c0) (by decide +kernel) rfl rfl rfl (by decide +kernel)
set_option maxRecDepth 65536 in
theorem w_c5 : (Jvm.Cond.code ({ cls := "com/example/interleave/interleave/Tally", name := "commit", desc := "(J)V" } : Jvm.MethodName) prog_84_method_3_code (3 : Nat) (Option.none : Option Jvm.ClassFile.FieldType)).before args0 about1 = true := code_word (m := ⟨2, 2⟩) (meth := k2m2) (c := k2c2) (by decide +kernel) rfl rfl rfl (by decide +kernel)
set_option maxRecDepth 65536 in
theorem w_c6 : (Jvm.Cond.code ({ cls := "java/lang/Math", name := "max", desc := "(JJ)J" } : Jvm.MethodName) jdk_29_method_66_code (4 : Nat) (Option.some Jvm.ClassFile.FieldType.long)).before args0 about1 = true := code_word (m := ⟨8, 1⟩) (meth := k8m1) (c := k8c1) (by decide +kernel) rfl rfl rfl (by decide +kernel)
set_option maxRecDepth 65536 in
theorem w_c7 : (Jvm.Cond.code ({ cls := "com/example/interleave/interleave/Tally", name := "averageNanos", desc := "()J" } : Jvm.MethodName) prog_84_method_13_code (1 : Nat) (Option.some Jvm.ClassFile.FieldType.long)).before args0 about1 = true := code_word (m := ⟨2, 5⟩) (meth := k2m5) (c := k2c5) (by decide +kernel) rfl rfl rfl (by decide +kernel)
set_option maxRecDepth 65536 in
theorem w_c8 : (Jvm.Cond.code ({ cls := "com/example/interleave/interleave/Tally", name := "start", desc := "()V" } : Jvm.MethodName) prog_84_method_2_code (1 : Nat) (Option.none : Option Jvm.ClassFile.FieldType)).before args0 about1 = true := code_word (m := ⟨2, 1⟩) (meth := k2m1) (c := k2c1) (by decide +kernel) rfl rfl rfl (by decide +kernel)
set_option maxRecDepth 65536 in
theorem w_c9 : (Jvm.Cond.code ({ cls := "com/example/interleave/interleave/Tally", name := "retry", desc := "()V" } : Jvm.MethodName) prog_84_method_5_code (1 : Nat) (Option.none : Option Jvm.ClassFile.FieldType)).before args0 about1 = true := code_word (m := ⟨2, 3⟩) (meth := k2m3) (c := k2c3) (by decide +kernel) rfl rfl rfl (by decide +kernel)
set_option maxRecDepth 65536 in
theorem w_c10 : (Jvm.Cond.code ({ cls := "com/example/interleave/interleave/Tally", name := "fail", desc := "()V" } : Jvm.MethodName) prog_84_method_6_code (1 : Nat) (Option.none : Option Jvm.ClassFile.FieldType)).before args0 about1 = true := code_word (m := ⟨2, 4⟩) (meth := k2m4) (c := k2c4) (by decide +kernel) rfl rfl rfl (by decide +kernel)
def codes1 : List Jvm.Cond := [Jvm.Cond.code x code maxLocals ret, Jvm.Cond.code ({ cls := "com/example/interleave/interleave/Tally", name := "<init>", desc := "()V" } : Jvm.MethodName) prog_84_method_1_code (1 : Nat) (Option.none : Option Jvm.ClassFile.FieldType), Jvm.Cond.code ({ cls := "java/lang/Object", name := "<init>", desc := "()V" } : Jvm.MethodName) object_method_1_code (1 : Nat) (Option.none : Option Jvm.ClassFile.FieldType), Jvm.Cond.code ({ cls := "java/util/HashMap", name := "<init>", desc := "()V" } : Jvm.MethodName) jdk_69_method_7_code (1 : Nat) (Option.none : Option Jvm.ClassFile.FieldType), Jvm.Cond.code ({ cls := "java/util/AbstractMap", name := "<init>", desc := "()V" } : Jvm.MethodName) jdk_71_method_1_code (1 : Nat) (Option.none : Option Jvm.ClassFile.FieldType), Jvm.Cond.code ({ cls := "com/example/interleave/interleave/Tally", name := "commit", desc := "(J)V" } : Jvm.MethodName) prog_84_method_3_code (3 : Nat) (Option.none : Option Jvm.ClassFile.FieldType), Jvm.Cond.code ({ cls := "java/lang/Math", name := "max", desc := "(JJ)J" } : Jvm.MethodName) jdk_29_method_66_code (4 : Nat) (Option.some Jvm.ClassFile.FieldType.long), Jvm.Cond.code ({ cls := "com/example/interleave/interleave/Tally", name := "averageNanos", desc := "()J" } : Jvm.MethodName) prog_84_method_13_code (1 : Nat) (Option.some Jvm.ClassFile.FieldType.long), Jvm.Cond.code ({ cls := "com/example/interleave/interleave/Tally", name := "start", desc := "()V" } : Jvm.MethodName) prog_84_method_2_code (1 : Nat) (Option.none : Option Jvm.ClassFile.FieldType), Jvm.Cond.code ({ cls := "com/example/interleave/interleave/Tally", name := "retry", desc := "()V" } : Jvm.MethodName) prog_84_method_5_code (1 : Nat) (Option.none : Option Jvm.ClassFile.FieldType), Jvm.Cond.code ({ cls := "com/example/interleave/interleave/Tally", name := "fail", desc := "()V" } : Jvm.MethodName) prog_84_method_6_code (1 : Nat) (Option.none : Option Jvm.ClassFile.FieldType)]
set_option maxRecDepth 65536 in
theorem codes_eq : words1.filter isCode = codes1 := rfl
theorem w_codes : ∀ c ∈ words1.filter isCode, c.before args0 about1 = true := by
  rw [codes_eq]
  intro c hc
  simp only [codes1, List.mem_cons, List.not_mem_nil, or_false] at hc
  rcases hc with rfl | rfl | rfl | rfl | rfl | rfl | rfl | rfl | rfl | rfl | rfl
  · exact w_c0
  · exact w_c1
  · exact w_c2
  · exact w_c3
  · exact w_c4
  · exact w_c5
  · exact w_c6
  · exact w_c7
  · exact w_c8
  · exact w_c9
  · exact w_c10
set_option maxRecDepth 65536 in
theorem w_t1 : (words1.take 24).all (fun c => isCode c || c.before args0 about1) = true := by decide +kernel
set_option maxRecDepth 65536 in
theorem w_t2 : ((words1.drop 24).take 24).all (fun c => isCode c || c.before args0 about1) = true := by decide +kernel
set_option maxRecDepth 65536 in
theorem w_t3 : ((words1.drop 24).drop 24).all (fun c => isCode c || c.before args0 about1) = true := by decide +kernel
theorem w_tables : (allAtoms (Jvm.Cond.code x code maxLocals ret :: tables_1)).before args0 about1 = true := by
  rw [allAtoms_all]
  show words1.all (fun c => c.before args0 about1) = true
  refine all_split ?_ w_codes
  rw [← List.take_append_drop 24 words1, List.all_append, w_t1, ← List.take_append_drop 24 (words1.drop 24), List.all_append, w_t2, w_t3]
  rfl
set_option maxRecDepth 65536 in
theorem w_case : (Jvm.Cond.and given_1 narrow_1).before args0 about1 = true := by decide +kernel
theorem w_applies : (headSpec (Jvm.Cond.code x code maxLocals ret :: tables_1) room_1).applies x e0.platform about1 = true :=
  (Spec.applies_iff w_frames).mpr ⟨w_running, w_runnable, w_alone, w_named, w_hears, w_ripe, w_room, w_tables⟩
theorem atStart : AtStart classFile x code maxLocals ret World_1 tables_1 room_1 Calls_1 rest_1 Pre_1 launch0 p0 e0 about1 theMethod args0 below0 :=
  ⟨lists_1, trivial, launch0.admits_env _ _ _, launch0.least_env, fairChoices_fair.cas, fairChoices_fair.clock, w_frames, w_args, w_heap, w_applies, trivial, trivial, w_case⟩
end start1
theorem witness_1 : WitnessClaimed_1 := ⟨start1.p0, start1.e0, start1.about1, start1.theMethod, start1.args0, start1.below0, start1.atStart⟩
end Jvm.Pilot.@@N@@
