import JvmDerived
import JvmDerived.Pilot.@@N@@Statement
import JvmDerived.Pilot.@@N@@Code
set_option linter.unusedVariables false
set_option linter.unusedSimpArgs false
namespace Jvm.Pilot.@@N@@
open Jvm Jvm.ClassFile Sem Op Lib Jvm.Free Jvm.Stand Jvm.LawKit Jvm.RoadKit Bundle Jvm.Pilot.@@N@@.Jvm.D
section Own
variable {p : Program} {l : Launch} {e : Env} {R : Room} {s : State} {m : MethodId} {args : Array Value} {below : List Frame} {meth : Method} {c : Code} {T T' : State} {locs : List Loc} {cells slots : Nat} {G : Outcome → State → Prop} {g g' : JFrame} {Z : State} {h h' h0 : Heap} {a b : Addr} {n0 : Nat} {Q : Option Value → Heap → List Loc → Prop} {CC SS : Nat}
/-- the run from T, with the frame g on top, ends as G wants it -/
def Win (p : Program) (e : Env) (below : List Frame) (G : Outcome → State → Prop) (T : State) (g : JFrame) : Prop :=
  ∃ s₂ o, Steps p.tables e below (T.setTop g) s₂ ∧ s₂.status = .running ∧ Ended s₂ below o ∧ G o s₂
theorem Win.st (W : Win p e below G T' g') (st : ∀ t, Steps p.tables e below (T'.setTop g') t → Steps p.tables e below (T.setTop g) t) : Win p e below G T g := by
  obtain ⟨s2, o, h1, h2⟩ := W
  exact ⟨s2, o, st _ h1, h2⟩
theorem Win.tr (W : Win p e below G T' g') (st : Steps p.tables e below (T.setTop g) (T'.setTop g')) : Win p e below G T g := by
  obtain ⟨s2, o, h1, h2⟩ := W
  exact ⟨s2, o, st.trans h1, h2⟩
/-- how a body ends: it returned v, Q of the value and the heap, the frame -/
def Ends (s : State) (Q : Option Value → Heap → List Loc → Prop) (CC SS : Nat) (o : Outcome) (U : State) : Prop := ∃ v L, o = .returned v ∧ Q v U.heap L ∧ FrameEnd s o U L CC SS
theorem Win.ret (X : Stand p l e R s m args below meth c T locs cells slots) (hx : p.tables.exec = Jvm.exec) (hlk : meth.locks = false) (eT : T.heap = h) {pc : Nat} {Ls : Array Slot} {w : Value} {t : FieldType} {i : Instr} {rest : List Value} (hret : meth.sig.returnType = some t) (hn : narrow t w = w)
    (hi : (i = .ireturn ∧ (t = .int ∨ t = .boolean ∨ t = .byte ∨ t = .char ∨ t = .short) ∧ ∃ z, w = .int z) ∨ (i = .lreturn ∧ t = .long ∧ ∃ z, w = .long z) ∨ (i = .dreturn ∧ t = .double ∧ ∃ z, w = .double z) ∨ (i = .freturn ∧ t = .float ∧ ∃ z, w = .float z) ∨ (i = .areturn ∧ t.isReference = true ∧ w.isRef = true))
    (hd : decode c.code pc = .ok (i, 1)) (hc : cells ≤ CC) (hs : slots ≤ SS) (hQ : Q (some w) h locs) : Win p e below (Ends s Q CC SS) T (mkF m pc Ls (w :: rest)) := by
  obtain ⟨fs, hr, hrun, hended, hW, hsame⟩ := X.leave (v := some w) (fun h => by rw [hret] at h; cases h) hlk
  subst eT
  exact ⟨_, _, retOut X hx hret hn hi hd hr, hrun, hended, _, _, rfl, hQ, ⟨_, rfl⟩, hW, hsame.mono hc hs⟩
theorem Win.retN (X : Stand p l e R s m args below meth c T locs cells slots) (hx : p.tables.exec = Jvm.exec) (hlk : meth.locks = false) (eT : T.heap = h) {pc : Nat} {Ls : Array Slot} {z z' : Int32} {t : FieldType} {rest : List Value} (hret : meth.sig.returnType = some t) (ht : t = .boolean ∨ t = .byte ∨ t = .char ∨ t = .short)
    (hd : decode c.code pc = .ok (.ireturn, 1)) (hc : cells ≤ CC) (hs : slots ≤ SS) (hz : nar t z = z') (hQ : Q (some (.int z')) h locs) : Win p e below (Ends s Q CC SS) T (mkF m pc Ls (.int z :: rest)) := by
  subst hz
  obtain ⟨fs, hr, hrun, hended, hW, hsame⟩ := X.leave (v := some (.int (nar t z))) (fun h => by rw [hret] at h; cases h) hlk
  subst eT
  exact ⟨_, _, Jvm.RoadKit.retN X hx hret ht hd hr, hrun, hended, _, _, rfl, hQ, ⟨_, rfl⟩, hW, hsame.mono hc hs⟩
theorem Win.retV (X : Stand p l e R s m args below meth c T locs cells slots) (hx : p.tables.exec = Jvm.exec) (hlk : meth.locks = false) (eT : T.heap = h) {pc : Nat} {Ls : Array Slot} (hret : meth.sig.returnType = none)
    (hd : decode c.code pc = .ok (.return_, 1)) (hc : cells ≤ CC) (hs : slots ≤ SS) (hQ : Q none h locs) : Win p e below (Ends s Q CC SS) T (mkF m pc Ls []) := by
  obtain ⟨fs, hr, hrun, hended, hW, hsame⟩ := X.leave (v := none) (fun _ => rfl) hlk
  subst eT
  exact ⟨_, _, X.returnOut hx hret hd hr, hrun, hended, _, _, rfl, hQ, ⟨_, rfl⟩, hW, hsame.mono hc hs⟩
theorem own_hide {k : Nat} {sl : Nat} (X : Stand p l e R s m args below meth c T (locs ++ [⟨a, sl⟩]) cells slots) (N : Fr k locs) (q : k ≤ a) : ∃ L, Stand p l e R s m args below meth c T L cells slots ∧ Fr k L := ⟨_, X, Fr.snoc X N q⟩
theorem own_kext (E : Ext h h') : Keep h h' [] := (Keep.refl h []).ext E
theorem own_new {x : Addr} (g : b = h.size) (q : x < h.size) : x ≠ b := Nat.ne_of_lt (g ▸ q)
theorem own_newle (Z0 : n0 ≤ h.size) (g : b = h.size) : n0 ≤ b := g ▸ Z0
theorem own_len {k : ClassId} {ty : FieldType} {z : Int32} {vs : List Value} {dv : Value} (V : Arv Z h a k ty z vs dv) : ¬ z < 0 := by obtain ⟨_, _, _, _, q, _⟩ := V; exact q
theorem own_alen {k : ClassId} {ty : FieldType} {z : Int32} {vs : List Value} {dv : Value} (X : Stand p l e R s m args below meth c T locs cells slots) (hx : p.tables.exec = Jvm.exec) (hZ : Z.Warmed39 s.vm) (eT : T.heap = h) (V : Arv Z h a k ty z vs dv) {rest : List Value} (hg : g.method = m) (hs : g.stack = .ref a :: rest) (hd : decode c.code g.pc = .ok (.arraylength, 1)) :
    ∀ target, Steps p.tables e below (T.setTop { g with pc := g.pc + 1, stack := .int z :: rest }) target → Steps p.tables e below (T.setTop g) target := by
  obtain ⟨cl, A, -, S, q, -, -⟩ := V
  intro t k
  refine X.arraylength hx (by rw [eT]; exact A.1) (State.isArrayOf_alike hZ.alike A.2.1) hg hs hd _ ?_
  rw [len_of S q]; exact k
theorem own_iald {k : ClassId} {z : Int32} {vs : List Value} {dv : Value} (X : Stand p l e R s m args below meth c T locs cells slots) (hx : p.tables.exec = Jvm.exec) (hZ : Z.Warmed39 s.vm) (eT : T.heap = h) (V : Arv Z h a k .int z vs dv) {j : Int32} {v : Value} (h1 : ¬ j < 0) (h2 : j < z) (hv : vs.getD j.toNatClampNeg dv = v) {rest : List Value} (hg : g.method = m) (hs : g.stack = .int j :: .ref a :: rest) (hd : decode c.code g.pc = .ok (.iaload, 1)) :
    ∀ target, Steps p.tables e below (T.setTop { g with pc := g.pc + 1, stack := v :: rest }) target → Steps p.tables e below (T.setTop g) target := by
  obtain ⟨cl, A, -, S, q, H, -⟩ := V
  have hin := inb_of S ⟨h1, h2⟩
  exact X.iaload hx (by rw [eT]; exact A.1) (State.isArrayOf_alike hZ.alike A.2.1) A.2.2 hin (H.at hin hv) hg hs hd
theorem own_bald {k : ClassId} {z : Int32} {vs : List Value} {dv : Value} (X : Stand p l e R s m args below meth c T locs cells slots) (hx : p.tables.exec = Jvm.exec) (hZ : Z.Warmed39 s.vm) (eT : T.heap = h) (V : Arv Z h a k .byte z vs dv) {j : Int32} {v : Value} (h1 : ¬ j < 0) (h2 : j < z) (hv : vs.getD j.toNatClampNeg dv = v) {rest : List Value} (hg : g.method = m) (hs : g.stack = .int j :: .ref a :: rest) (hd : decode c.code g.pc = .ok (.baload, 1)) :
    ∀ target, Steps p.tables e below (T.setTop { g with pc := g.pc + 1, stack := v :: rest }) target → Steps p.tables e below (T.setTop g) target := by
  obtain ⟨cl, A, -, S, q, H, -⟩ := V
  have hin := inb_of S ⟨h1, h2⟩
  exact X.baloadBytes hx (by rw [eT]; exact A.1) (State.isArrayOf_alike hZ.alike A.2.1) A.2.2 hin (H.at hin hv) hg hs hd
theorem own_cald {k : ClassId} {z : Int32} {vs : List Value} {dv : Value} (X : Stand p l e R s m args below meth c T locs cells slots) (hx : p.tables.exec = Jvm.exec) (hZ : Z.Warmed39 s.vm) (eT : T.heap = h) (V : Arv Z h a k .char z vs dv) {j : Int32} {v : Value} (h1 : ¬ j < 0) (h2 : j < z) (hv : vs.getD j.toNatClampNeg dv = v) {rest : List Value} (hg : g.method = m) (hs : g.stack = .int j :: .ref a :: rest) (hd : decode c.code g.pc = .ok (.caload, 1)) :
    ∀ target, Steps p.tables e below (T.setTop { g with pc := g.pc + 1, stack := v :: rest }) target → Steps p.tables e below (T.setTop g) target := by
  obtain ⟨cl, A, -, S, q, H, -⟩ := V
  have hin := inb_of S ⟨h1, h2⟩
  exact X.caload hx (by rw [eT]; exact A.1) (State.isArrayOf_alike hZ.alike A.2.1) A.2.2 hin (H.at hin hv) hg hs hd
theorem own_cast {k : ClassId} {z : Int32} {vs : List Value} {dv : Value} (X : Stand p l e R s m args below meth c T locs cells slots) (hx : p.tables.exec = Jvm.exec) (hZ : Z.Warmed39 s.vm) (eT : T.heap = h) (N : Fr n0 locs) (ge : n0 ≤ a) (V : Arv Z h a k .char z vs dv) {j x : Int32} (h1 : ¬ j < 0) (h2 : j < z) {i : Nat} (hj : j.toNatClampNeg = i) (hi : i < vs.length) {rest : List Value} (hg : g.method = m) (hs : g.stack = .int x :: .int j :: .ref a :: rest) (hd : decode c.code g.pc = .ok (.castore, 1)) :
    ∃ T' h' L, Stand p l e R s m args below meth c T' L cells slots ∧ Fr n0 L ∧ T'.heap = h' ∧ Keep h h' [a] ∧ Arv Z h' a k .char z (vs.set i (.int (x.toUInt32.toUInt16.toUInt32.toInt32))) dv ∧ ∀ target, Steps p.tables e below (T'.setTop { g with pc := g.pc + 1, stack := rest }) target → Steps p.tables e below (T.setTop g) target := by
  obtain ⟨cl, A, q1, S, q, H, Gf⟩ := V
  have hin := inb_of S ⟨h1, h2⟩
  obtain ⟨T', h', X', e', W, st⟩ := stC X hx hZ eT A hin hg hs hd
  exact ⟨T', h', _, X', Fr.snoc X' N ge, e', Keep.of_wr W, Arv.set A q1 S q H Gf (fits_nar_char x) W i hj hi, st⟩
theorem own_iast {k : ClassId} {z : Int32} {vs : List Value} {dv : Value} (X : Stand p l e R s m args below meth c T locs cells slots) (hx : p.tables.exec = Jvm.exec) (hZ : Z.Warmed39 s.vm) (eT : T.heap = h) (N : Fr n0 locs) (ge : n0 ≤ a) (V : Arv Z h a k .int z vs dv) {j x : Int32} (h1 : ¬ j < 0) (h2 : j < z) {i : Nat} (hj : j.toNatClampNeg = i) (hi : i < vs.length) {rest : List Value} (hg : g.method = m) (hs : g.stack = .int x :: .int j :: .ref a :: rest) (hd : decode c.code g.pc = .ok (.iastore, 1)) :
    ∃ T' h' L, Stand p l e R s m args below meth c T' L cells slots ∧ Fr n0 L ∧ T'.heap = h' ∧ Keep h h' [a] ∧ Arv Z h' a k .int z (vs.set i (.int x)) dv ∧ ∀ target, Steps p.tables e below (T'.setTop { g with pc := g.pc + 1, stack := rest }) target → Steps p.tables e below (T.setTop g) target := by
  obtain ⟨cl, A, q1, S, q, H, Gf⟩ := V
  have hin := inb_of S ⟨h1, h2⟩
  obtain ⟨T', h', X', e', W, st⟩ := stI X hx hZ eT A hin hg hs hd
  exact ⟨T', h', _, X', Fr.snoc X' N ge, e', Keep.of_wr W, Arv.set A q1 S q H Gf rfl W i hj hi, st⟩
theorem own_bast {k : ClassId} {z : Int32} {vs : List Value} {dv : Value} (X : Stand p l e R s m args below meth c T locs cells slots) (hx : p.tables.exec = Jvm.exec) (hZ : Z.Warmed39 s.vm) (eT : T.heap = h) (N : Fr n0 locs) (ge : n0 ≤ a) (V : Arv Z h a k .byte z vs dv) {j x : Int32} (h1 : ¬ j < 0) (h2 : j < z) {i : Nat} (hj : j.toNatClampNeg = i) (hi : i < vs.length) {rest : List Value} (hg : g.method = m) (hs : g.stack = .int x :: .int j :: .ref a :: rest) (hd : decode c.code g.pc = .ok (.bastore, 1)) :
    ∃ T' h' L, Stand p l e R s m args below meth c T' L cells slots ∧ Fr n0 L ∧ T'.heap = h' ∧ Keep h h' [a] ∧ Arv Z h' a k .byte z (vs.set i (.int x.toInt8.toInt32)) dv ∧ ∀ target, Steps p.tables e below (T'.setTop { g with pc := g.pc + 1, stack := rest }) target → Steps p.tables e below (T.setTop g) target := by
  obtain ⟨cl, A, q1, S, q, H, Gf⟩ := V
  have hin := inb_of S ⟨h1, h2⟩
  obtain ⟨T', h', X', e', W, st⟩ := stB X hx hZ eT A hin hg hs hd
  exact ⟨T', h', _, X', Fr.snoc X' N ge, e', Keep.of_wr W, Arv.set A q1 S q H Gf (fits_nar_byte x) W i hj hi, st⟩
/-- how a body ends that may have interned a String -/
def EndsW (s : State) (Q : Option Value → Heap → List Loc → Prop) (CC SS : Nat) (o : Outcome) (U : State) : Prop := ∃ v L, o = .returned v ∧ Q v U.heap L ∧ ReturnedEndW s o U L CC SS
theorem Win.retNW {vm₁ : Vm} {k1 : Nat} (X : Stand p l e R (s.setVm vm₁) m args below meth c T locs cells slots) (hS : s.Since vm₁ k1) (hk : k1 ≤ h.size) (hx : p.tables.exec = Jvm.exec) (hlk : meth.locks = false) (eT : T.heap = h) {pc : Nat} {Ls : Array Slot} {z z' : Int32} {t : FieldType} {rest : List Value} (hret : meth.sig.returnType = some t) (ht : t = .boolean ∨ t = .byte ∨ t = .char ∨ t = .short)
    (hd : decode c.code pc = .ok (.ireturn, 1)) (hc : cells ≤ CC) (hs : slots ≤ SS) (hz : nar t z = z') (hQ : Q (some (.int z')) h locs) : Win p e below (EndsW s Q CC SS) T (mkF m pc Ls (.int z :: rest)) := by
  subst hz
  subst eT
  obtain ⟨fs, hr, hrun, hended, h1, h2, h3, h4⟩ := X.leaveW hS hk (v := some (.int (nar t z))) (fun h => by rw [hret] at h; cases h) hlk
  exact ⟨_, _, Jvm.RoadKit.retN X hx hret ht hd hr, hrun, hended, _, _, rfl, hQ, h1, h2, h3, h4.mono hc hs⟩
theorem Win.retVW {vm₁ : Vm} {k1 : Nat} (X : Stand p l e R (s.setVm vm₁) m args below meth c T locs cells slots) (hS : s.Since vm₁ k1) (hk : k1 ≤ h.size) (hx : p.tables.exec = Jvm.exec) (hlk : meth.locks = false) (eT : T.heap = h) {pc : Nat} {Ls : Array Slot} (hret : meth.sig.returnType = none)
    (hd : decode c.code pc = .ok (.return_, 1)) (hc : cells ≤ CC) (hs : slots ≤ SS) (hQ : Q none h locs) : Win p e below (EndsW s Q CC SS) T (mkF m pc Ls []) := by
  subst eT
  obtain ⟨fs, hr, hrun, hended, h1, h2, h3, h4⟩ := X.leaveW hS hk (v := none) (fun _ => rfl) hlk
  exact ⟨_, _, X.returnOut hx hret hd hr, hrun, hended, _, _, rfl, hQ, h1, h2, h3, h4.mono hc hs⟩
theorem Win.retRW {vm₁ : Vm} {k1 : Nat} (X : Stand p l e R (s.setVm vm₁) m args below meth c T locs cells slots) (hS : s.Since vm₁ k1) (hk : k1 ≤ h.size) (hx : p.tables.exec = Jvm.exec) (hlk : meth.locks = false) (eT : T.heap = h) {pc : Nat} {Ls : Array Slot} {w : Value} {t : FieldType} {rest : List Value} (hret : meth.sig.returnType = some t) (ht : t.isReference = true) (hw : w.isRef = true) (hn : narrow t w = w)
    (hd : decode c.code pc = .ok (.areturn, 1)) (hc : cells ≤ CC) (hs : slots ≤ SS) (hQ : Q (some w) h locs) : Win p e below (EndsW s Q CC SS) T (mkF m pc Ls (w :: rest)) := by
  subst eT
  obtain ⟨fs, hr, hrun, hended, h1, h2, h3, h4⟩ := X.leaveW hS hk (v := some w) (fun h => by rw [hret] at h; cases h) hlk
  exact ⟨_, _, retOut X hx hret hn (Or.inr (Or.inr (Or.inr (Or.inr ⟨rfl, ht, hw⟩)))) hd hr, hrun, hended, _, _, rfl, hQ, h1, h2, h3, h4.mono hc hs⟩
/-- RoadKit's backOfSH for a callee that asks the invariant and doesn't give it back -/
theorem own_backOfSP {a0 : Array Value} {EL : List (String × Nat)} {vm0 : Vm} {y : MethodName} {bytes : ByteArray} {maxL : Nat} {ret : Option FieldType} {rm : Room} {len W : Nat} {as' : Array Value} {Q : Option Value → Heap → List Loc → Prop}
    (hM : MetFree l y (head1 [Jvm.Cond.code y bytes maxL ret] rm) (fun a U => a = as' ∧ Z.Warmed39 U.vm ∧ U.heap = h ∧ CHv Z EL U.vm h) (fun _ _ _ _ _ => True) (fun _ U o U' => ∃ v L, o = .returned v ∧ Q v U'.heap L ∧ ReturnedEndW U o U' L rm.cells rm.slots))
    (hZ : Z.Warmed39 vm0) (wc : (Jvm.Cond.code y bytes maxL ret).before a0 Z = true) (wz : (Jvm.Cond.initialized y.cls).before a0 Z = true) (hf : rm.frames + 1 ≤ R.frames) (hl : W + (maxL + 11) + rm.locals ≤ R.locals) (hEL : EW Z a0 EL) (H : CHv Z EL vm0 h) :
    BackS l R p e below (s.setVm vm0) args y len W (fun A a => a = as' ∧ A.U.heap = h ∧ A.cells + rm.cells ≤ R.cells ∧ A.slots + rm.slots ≤ R.slots)
      (fun A _ v B => ∃ L, Q v B.U.heap L ∧ B.locs = A.locs ++ L ∧ B.cells = A.cells + rm.cells ∧ B.slots = A.slots + rm.slots) :=
  BackS.of_freeW (bytes := bytes) (maxL := maxL) (ret := ret) (E := fun _ _ o t L k n => k = rm.cells ∧ n = rm.slots ∧ ∃ v, o = .returned v ∧ Q v t.heap L) hM hf hl
    (fun m meth c A a Y hp => have hU : Z.Warmed39 A.U.vm := wtrans (s := s.setVm vm0) hZ Y.warmed
      ⟨by show (Jvm.Cond.and _ .tt).before a A.U = true; rw [Cond.before_and, mv hU wc]; rfl, mv hU wc, mv hU wz, hp.2.2.1, hp.2.2.2⟩)
    (fun m meth c A a g mk Y hp => ⟨hp.1, wtrans (s := s.setVm vm0) hZ Y.warmed, hp.2.1, (CHv.at Y hZ hEL H).1⟩) (fun _ _ _ _ _ _ _ _ _ => trivial)
    (fun _ _ _ _ ⟨v, L, h1, h2, h3⟩ => ⟨L, _, _, h3, rfl, rfl, v, h1, h2⟩)
    (fun m meth c A a g mk v t L k n Y hp _ _ ⟨e1, e2, v', e3, e4⟩ => by cases e3; subst e1 e2; exact ⟨L, e4, rfl, rfl, rfl⟩)
theorem own_sta_keep {C n d : String} {v : Value} (F : Sta Z h C n d v) (K : Keep h h' []) : Sta Z h' C n d v := by
  obtain ⟨cf, i, k, f, st, cell, h1, h2, h3, h4, h5, r⟩ := F
  exact ⟨cf, i, k, f, st, cell, h1, h2, h3, h4, K.2.1 _ _ h5 nin0, r⟩
theorem own_nar_ref {u : Value} {C : String} (hu : u.isRef = true) : narrow (.object C) u = u := by rcases ref_cases hu with rfl | ⟨z, rfl⟩ <;> rfl
theorem own_fit_ref {u : Value} {C : String} (hu : u.isRef = true) : fits (.object C) u = true := by rcases ref_cases hu with rfl | ⟨z, rfl⟩ <;> rfl
theorem own_no {a0 : Array Value} {C K O : String} {n : Nat} (w : (Jvm.Cond.superclass C O).before a0 Z = true) (wo : (Jvm.Cond.noSuperclass O).before a0 Z = true) (wk : (Jvm.Cond.instantiable K n).before a0 Z = true) (h1 : C ≠ K) (h2 : O ≠ K) : ∃ c t, Z.vm.findClass C = some c ∧ Z.vm.findClass K = some t ∧ Z.vm.assignable c t = false := by
  obtain ⟨o, ko, o1, o2, o3, -, -⟩ := Cond.noSuperclass_spec wo
  obtain ⟨t, kt, t1, t2, t3, t4, -⟩ := Cond.instantiable_spec wk
  obtain ⟨c, c0⟩ := found_sup w
  obtain ⟨p, k, kp, p1, p2, p3, p4, p5, -, p7⟩ := Cond.superclass_spec c0 w
  cases o1.symm.trans p1
  have ne1 := ids_ne c0 t1 h1
  have ne2 := ids_ne o1 t1 h2
  simp only [Bool.or_eq_false_iff] at t4
  have n3 : ∀ fuel, Z.vm.isSubclassAux fuel c t = false := fun fuel => by
    match fuel with
    | 0 => rfl
    | 1 => simp [Vm.isSubclassAux, ne1, p2, p4]
    | f + 2 => simp [Vm.isSubclassAux, ne1, ne2, p2, p4, o2, o3]
  refine ⟨c, t, c0, t1, ?_⟩
  show Z.vm.assignableAux (255 + 1) c t = false
  simp [Vm.assignableAux, ne1, p2, t2, p5, t3, t4.1, Vm.isSubclass, n3]
theorem own_selp {y : MethodName} {n : Nat} (hi : (Jvm.Cond.instantiable y.cls n).before args s = true) (hp : s.PrivateAt y) (hm : (Jvm.Cond.instanceMethod y).before args s = true) (hy : y.cls ≠ "java/lang/invoke/MethodHandle" ∧ y.cls ≠ "java/lang/invoke/VarHandle") : (Jvm.Cond.selects y.cls y y).before args s = true := by
  obtain ⟨c, k, h1, h2, h3, h4, -⟩ := Cond.instantiable_spec hi
  exact selects_self_of_private h1 h2 (by simp only [Bool.or_eq_false_iff] at h4; exact h4.1) hp hm hy
end Own

theorem own_and3 (x : Int32) : x &&& 3 = 0 ∨ x &&& 3 = 1 ∨ x &&& 3 = 2 ∨ x &&& 3 = 3 := by
  have q := c_mask x 3 2 (by decide) (by decide)
  have r : (x &&& 3).toInt = 0 ∨ (x &&& 3).toInt = 1 ∨ (x &&& 3).toInt = 2 ∨ (x &&& 3).toInt = 3 := by omega
  rcases r with r | r | r | r
  · exact Or.inl (Int32.toInt_inj.mp (r.trans (by decide)))
  · exact Or.inr (Or.inl (Int32.toInt_inj.mp (r.trans (by decide))))
  · exact Or.inr (Or.inr (Or.inl (Int32.toInt_inj.mp (r.trans (by decide)))))
  · exact Or.inr (Or.inr (Or.inr (Int32.toInt_inj.mp (r.trans (by decide)))))
/-- what Math.max picks of two longs -/
def own_maxL (x y : Int64) : Int64 := if lcmpW x y < 0 then y else x
/-- the average as Tally reckons it -/
def own_avg (c n : Int64) : Int64 := if lcmpW c 0 = 0 then 0 else n / c
theorem own_div1 (x : Int64) : x / 1 = x := Int64.toInt_inj.mp (by rw [Int64.toInt_div_of_ne_right x 1 (by decide)]; exact Int.tdiv_one _)
theorem own_avg1 (x : Int64) : own_avg (0 + 1) (0 + x) = x := by
  unfold own_avg
  rw [if_neg (by decide), Int64.zero_add]
  exact own_div1 x
theorem own_avgd (c n d : Int64) (h : ¬ lcmpW c 0 = 0) (e : c = d) : own_avg c n = n / d := by
  unfold own_avg
  rw [if_neg h, e]
theorem own_max0 {a : Int64} (h : 0 ≤ a.toInt) : own_maxL 0 a = a := by
  unfold own_maxL
  split
  · rfl
  · rename_i q
    rw [lw_lt, Int64.lt_iff_toInt_lt] at q
    have z : (0 : Int64).toInt = 0 := by decide
    exact Int64.toInt_inj.mp (by omega)
theorem own_maxY {a b : Int64} (h : (0 : Int32) < lcmpW b a) : own_maxL a b = b := by
  unfold own_maxL
  rw [if_pos ((lw_lt _ _).mpr ((lw_gt _ _).mp h))]
theorem own_maxN {a b : Int64} (h : ¬ (0 : Int32) < lcmpW b a) : own_maxL a b = a := by
  unfold own_maxL
  rw [if_neg (fun q => h ((lw_gt _ _).mpr ((lw_lt _ _).mp q)))]

theorem d_jdk_29_method_66_0 : decode jdk_29_method_66_code 0 = .ok (.lload_n 0, 1) := by decide +kernel
theorem d_jdk_29_method_66_1 : decode jdk_29_method_66_code 1 = .ok (.lload_n 2, 1) := by decide +kernel
theorem d_jdk_29_method_66_2 : decode jdk_29_method_66_code 2 = .ok (.lcmp, 1) := by decide +kernel
theorem d_jdk_29_method_66_3 : decode jdk_29_method_66_code 3 = .ok (.ifCond .lt 7, 3) := by decide +kernel
theorem d_jdk_29_method_66_10 : decode jdk_29_method_66_code 10 = .ok (.lload_n 2, 1) := by decide +kernel
theorem d_jdk_29_method_66_11 : decode jdk_29_method_66_code 11 = .ok (.lreturn, 1) := by decide +kernel
theorem d_jdk_29_method_66_6 : decode jdk_29_method_66_code 6 = .ok (.lload_n 0, 1) := by decide +kernel
theorem d_jdk_29_method_66_7 : decode jdk_29_method_66_code 7 = .ok (.goto 4, 3) := by decide +kernel
theorem ef_maxj (mt : MethodId) (x : Int64) (y : Int64) : entryFrame mt #[(.long x), (.long y)] 4 = mkF mt 0 #[.val (.long x), .second, .val (.long y), .second] [] := by first | (simp [entryFrame, mkF, argsToLocals, Value.category]; done) | rfl
def Q_maxj (Z : State) (x : Int64) (y : Int64) (h0 : Heap) (n0 : Nat) (v : Option Value) (h : Heap) (L : List Loc) : Prop := v = some (.long (own_maxL x y)) ∧ Fr n0 L ∧ h = h0
set_option maxRecDepth 65536 in
set_option maxHeartbeats 40000000 in
theorem rm_maxj (l : Launch) (Z : State) (a0 : Array Value) (hw : ∀ d ∈ tables_1, d.before a0 Z = true) (ws : List Jvm.Cond) (x : Int64) (y : Int64) (h0 : Heap) (n0 : Nat) (Z0 : n0 ≤ h0.size) :
    MetFree l (⟨"java/lang/Math", "max", "(JJ)J"⟩ : MethodName) (head1 (Jvm.Cond.code (⟨"java/lang/Math", "max", "(JJ)J"⟩ : MethodName) jdk_29_method_66_code 4 (some .long) :: ws) ({ frames := 0, cells := 0, slots := 0, locals := 0 } : Room)) (fun aa UU => aa = #[(.long x), (.long y)] ∧ Z.Warmed39 UU.vm ∧ UU.heap = h0) (fun _ _ _ _ _ => True) (fun _ UU oo UU' => ∃ vv LL, oo = .returned vv ∧ Q_maxj Z x y h0 n0 vv UU'.heap LL ∧ FrameEnd UU oo UU' LL ({ frames := 0, cells := 0, slots := 0, locals := 0 } : Room).cells ({ frames := 0, cells := 0, slots := 0, locals := 0 } : Room).slots) := by
  refine MetFree.of_bodySF (Jvm.Free.JP.mathPlain rfl (by decide +kernel)) hisR ?_
  intro p e s mt args below meth cd s₁ Bd hml0 hP hK
  obtain ⟨hA, hZ, hh⟩ := hP
  have hx := Bd.exec
  have hby := Bd.bytes
  have hml : cd.maxLocals = 4 := hml0
  have hown : s.vm.findClass "java/lang/Math" = some mt.cls := findClass_of_methodNamed Bd.named
  have hnm := (name_of_methodNamed Bd.named Bd.method).1
  have hlk : meth.locks = false := BodyLoose.notSynchronized Bd
  have hrt := Bd.returns
  have X0 : Stand p l e ({ frames := 0, cells := 0, slots := 0, locals := 0 } : Room) s mt args below meth cd s₁ [] 0 0 := Stand.of_body Bd
  have e0 : s₁.heap = h0 := by rw [← hh, Bd.state]; rfl
  have N0 := Fr.nil n0
  show Win p e below (Ends s (Q_maxj Z x y h0 n0) ({ frames := 0, cells := 0, slots := 0, locals := 0 } : Room).cells ({ frames := 0, cells := 0, slots := 0, locals := 0 } : Room).slots) s₁ (entryFrame mt args 4)
  rw [hA, ef_maxj]
  refine Win.st ?_ (fun tq kq => XS.lloadN X0.here hx rfl (hb hby d_jdk_29_method_66_0) rfl kq)
  show Win p e below _ s₁ (mkF mt 1 #[.val (.long x), .second, .val (.long y), .second] [(.long x)])
  refine Win.st ?_ (fun tq kq => XS.lloadN X0.here hx rfl (hb hby d_jdk_29_method_66_1) rfl kq)
  show Win p e below _ s₁ (mkF mt 2 #[.val (.long x), .second, .val (.long y), .second] [(.long y), (.long x)])
  refine Win.st ?_ (fun tq kq => XS.lcmp X0.here hx rfl (hb hby d_jdk_29_method_66_2) rfl kq)
  show Win p e below _ s₁ (mkF mt 3 #[.val (.long x), .second, .val (.long y), .second] [(.int (lcmpW x y))])
  by_cases hc : (lcmpW x y) < (0 : Int32)
  · refine Win.st ?_ (fun tq kq => XS.ifYes X0.here hx rfl (pc0 := 3) (pc' := 10) rfl (hb hby d_jdk_29_method_66_3) rfl ((if0 _ _).trans (tlt hc).1) (by decide) (by decide) kq)
    show Win p e below _ s₁ (mkF mt 10 #[.val (.long x), .second, .val (.long y), .second] [])
    refine Win.st ?_ (fun tq kq => XS.lloadN X0.here hx rfl (hb hby d_jdk_29_method_66_10) rfl kq)
    show Win p e below _ s₁ (mkF mt 11 #[.val (.long x), .second, .val (.long y), .second] [(.long y)])
    exact Win.ret X0 hx hlk e0 hrt rfl (Or.inr (Or.inl ⟨rfl, rfl, _, rfl⟩)) (hb hby d_jdk_29_method_66_11) (by decide) (by decide) ⟨by simp only [own_maxL, hc, if_true, if_false], N0, rfl⟩
  · refine Win.st ?_ (fun tq kq => XS.ifNo X0.here hx rfl (hb hby d_jdk_29_method_66_3) rfl ((if0 _ _).trans (flt hc).1) kq)
    show Win p e below _ s₁ (mkF mt 6 #[.val (.long x), .second, .val (.long y), .second] [])
    refine Win.st ?_ (fun tq kq => XS.lloadN X0.here hx rfl (hb hby d_jdk_29_method_66_6) rfl kq)
    show Win p e below _ s₁ (mkF mt 7 #[.val (.long x), .second, .val (.long y), .second] [(.long x)])
    refine Win.st ?_ (fun tq kq => XS.goto X0.here hx rfl (pc0 := 7) (pc' := 11) rfl (hb hby d_jdk_29_method_66_7) (by decide) (by decide) kq)
    show Win p e below _ s₁ (mkF mt 11 #[.val (.long x), .second, .val (.long y), .second] [(.long x)])
    exact Win.ret X0 hx hlk e0 hrt rfl (Or.inr (Or.inl ⟨rfl, rfl, _, rfl⟩)) (hb hby d_jdk_29_method_66_11) (by decide) (by decide) ⟨by simp only [own_maxL, hc, if_true, if_false], N0, rfl⟩
theorem d_jdk_71_method_1_0 : decode jdk_71_method_1_code 0 = .ok (.aload_n 0, 1) := by decide +kernel
theorem d_jdk_71_method_1_1 : decode jdk_71_method_1_code 1 = .ok (.invokespecial 1, 3) := by decide +kernel
theorem d_jdk_71_method_1_4 : decode jdk_71_method_1_code 4 = .ok (.return_, 1) := by decide +kernel
theorem pn_0 : plainName "java/util/AbstractMap" = true := by first | (simp [plainName, overriddenIn]; done) | decide +kernel
theorem ef_am (mt : MethodId) (a : Addr) : entryFrame mt #[(.ref a)] 1 = mkF mt 0 #[.val (.ref a)] [] := by first | (simp [entryFrame, mkF, argsToLocals, Value.category]; done) | rfl
def Q_am (Z : State) (a : Addr) (h0 : Heap) (n0 : Nat) (v : Option Value) (h : Heap) (L : List Loc) : Prop := v = none ∧ Fr n0 L ∧ h = h0
set_option maxRecDepth 65536 in
set_option maxHeartbeats 40000000 in
theorem rm_am (l : Launch) (Z : State) (a0 : Array Value) (hw : ∀ d ∈ tables_1, d.before a0 Z = true) (ws : List Jvm.Cond) (a : Addr) (h0 : Heap) (n0 : Nat) (Z0 : n0 ≤ h0.size) :
    MetFree l (⟨"java/util/AbstractMap", "<init>", "()V"⟩ : MethodName) (head1 (Jvm.Cond.code (⟨"java/util/AbstractMap", "<init>", "()V"⟩ : MethodName) jdk_71_method_1_code 1 none :: ws) ({ frames := 1, cells := 0, slots := 0, locals := 12 } : Room)) (fun aa UU => aa = #[(.ref a)] ∧ Z.Warmed39 UU.vm ∧ UU.heap = h0) (fun _ _ _ _ _ => True) (fun _ UU oo UU' => ∃ vv LL, oo = .returned vv ∧ Q_am Z a h0 n0 vv UU'.heap LL ∧ FrameEnd UU oo UU' LL ({ frames := 1, cells := 0, slots := 0, locals := 12 } : Room).cells ({ frames := 1, cells := 0, slots := 0, locals := 12 } : Room).slots) := by
  refine MetFree.of_bodySF (plainFor_of_name pn_0) hisR ?_
  intro p e s mt args below meth cd s₁ Bd hml0 hP hK
  obtain ⟨hA, hZ, hh⟩ := hP
  have hx := Bd.exec
  have hby := Bd.bytes
  have hml : cd.maxLocals = 1 := hml0
  have hown : s.vm.findClass "java/util/AbstractMap" = some mt.cls := findClass_of_methodNamed Bd.named
  have hnm := (name_of_methodNamed Bd.named Bd.method).1
  have hlk : meth.locks = false := BodyLoose.notSynchronized Bd
  have hrt := Bd.returns
  have X0 : Stand p l e ({ frames := 1, cells := 0, slots := 0, locals := 12 } : Room) s mt args below meth cd s₁ [] 0 0 := Stand.of_body Bd
  have e0 : s₁.heap = h0 := by rw [← hh, Bd.state]; rfl
  have N0 := Fr.nil n0
  show Win p e below (Ends s (Q_am Z a h0 n0) ({ frames := 1, cells := 0, slots := 0, locals := 12 } : Room).cells ({ frames := 1, cells := 0, slots := 0, locals := 12 } : Room).slots) s₁ (entryFrame mt args 1)
  rw [hA, ef_am]
  refine Win.st ?_ (fun tq kq => XS.aloadN X0.here hx rfl (hb hby d_jdk_71_method_1_0) rfl rfl kq)
  show Win p e below _ s₁ (mkF mt 1 #[.val (.ref a)] [(.ref a)])
  obtain ⟨T11, X11, e11, st11⟩ := initO X0 hx hZ hown (hw _ (List.mem_of_getElem? (i := 22) rfl)) (hw _ (List.mem_of_getElem? (i := 8) rfl)) (hw _ (List.mem_of_getElem? (i := 9) rfl)) e0 (g := (mkF mt 1 #[.val (.ref a)] [(.ref a)])) rfl (by rw [hml]; rfl) rfl (hb hby d_jdk_71_method_1_1) (by decide) (W := 0) (by show 2 * 0 + _ ≤ _; exact Nat.le_of_eq rfl) (by decide)
  refine Win.st ?_ st11
  show Win p e below _ T11 (mkF mt 4 #[.val (.ref a)] [])
  exact Win.retV X11 hx hlk e11 hrt (hb hby d_jdk_71_method_1_4) (by decide) (by decide) ⟨rfl, N0, rfl⟩
theorem d_jdk_69_method_7_0 : decode jdk_69_method_7_code 0 = .ok (.aload_n 0, 1) := by decide +kernel
theorem d_jdk_69_method_7_1 : decode jdk_69_method_7_code 1 = .ok (.invokespecial 43, 3) := by decide +kernel
theorem pd_0 : parseMethodDescriptor "()V" = some ⟨[], none⟩ := by decide +kernel
theorem d_jdk_69_method_7_4 : decode jdk_69_method_7_code 4 = .ok (.aload_n 0, 1) := by decide +kernel
theorem d_jdk_69_method_7_5 : decode jdk_69_method_7_code 5 = .ok (.ldc 92, 2) := by decide +kernel
theorem d_jdk_69_method_7_7 : decode jdk_69_method_7_code 7 = .ok (.putfield 81, 3) := by decide +kernel
theorem d_jdk_69_method_7_10 : decode jdk_69_method_7_code 10 = .ok (.return_, 1) := by decide +kernel
theorem pn_1 : plainName "java/util/HashMap" = true := by first | (simp [plainName, overriddenIn]; done) | decide +kernel
theorem ef_hm (mt : MethodId) (a : Addr) : entryFrame mt #[(.ref a)] 1 = mkF mt 0 #[.val (.ref a)] [] := by first | (simp [entryFrame, mkF, argsToLocals, Value.category]; done) | rfl
def Q_hm (Z : State) (a : Addr) (u : Value) (h0 : Heap) (n0 : Nat) (v : Option Value) (h : Heap) (L : List Loc) : Prop := v = none ∧ Fr n0 L ∧ Keep h0 h [a]
set_option maxRecDepth 65536 in
set_option maxHeartbeats 40000000 in
theorem rm_hm (l : Launch) (Z : State) (a0 : Array Value) (hw : ∀ d ∈ tables_1, d.before a0 Z = true) (ws : List Jvm.Cond) (a : Addr) (u : Value) (h0 : Heap) (n0 : Nat) (Z0 : n0 ≤ h0.size) (E : Exa Z h0 a "java/util/HashMap") (F1 : Fld Z h0 a "java/util/HashMap" "loadFactor" "F" u) (ga : n0 ≤ a) :
    MetFree l (⟨"java/util/HashMap", "<init>", "()V"⟩ : MethodName) (head1 (Jvm.Cond.code (⟨"java/util/HashMap", "<init>", "()V"⟩ : MethodName) jdk_69_method_7_code 1 none :: ws) ({ frames := 2, cells := 0, slots := 0, locals := 24 } : Room)) (fun aa UU => aa = #[(.ref a)] ∧ Z.Warmed39 UU.vm ∧ UU.heap = h0) (fun _ _ _ _ _ => True) (fun _ UU oo UU' => ∃ vv LL, oo = .returned vv ∧ Q_hm Z a u h0 n0 vv UU'.heap LL ∧ FrameEnd UU oo UU' LL ({ frames := 2, cells := 0, slots := 0, locals := 24 } : Room).cells ({ frames := 2, cells := 0, slots := 0, locals := 24 } : Room).slots) := by
  refine MetFree.of_bodySF (plainFor_of_name pn_1) hisR ?_
  intro p e s mt args below meth cd s₁ Bd hml0 hP hK
  obtain ⟨hA, hZ, hh⟩ := hP
  have hx := Bd.exec
  have hby := Bd.bytes
  have hml : cd.maxLocals = 1 := hml0
  have hown : s.vm.findClass "java/util/HashMap" = some mt.cls := findClass_of_methodNamed Bd.named
  have hnm := (name_of_methodNamed Bd.named Bd.method).1
  have hlk : meth.locks = false := BodyLoose.notSynchronized Bd
  have hrt := Bd.returns
  have X0 : Stand p l e ({ frames := 2, cells := 0, slots := 0, locals := 24 } : Room) s mt args below meth cd s₁ [] 0 0 := Stand.of_body Bd
  have e0 : s₁.heap = h0 := by rw [← hh, Bd.state]; rfl
  have N0 := Fr.nil n0
  show Win p e below (Ends s (Q_hm Z a u h0 n0) ({ frames := 2, cells := 0, slots := 0, locals := 24 } : Room).cells ({ frames := 2, cells := 0, slots := 0, locals := 24 } : Room).slots) s₁ (entryFrame mt args 1)
  rw [hA, ef_hm]
  refine Win.st ?_ (fun tq kq => XS.aloadN X0.here hx rfl (hb hby d_jdk_69_method_7_0) rfl rfl kq)
  show Win p e below _ s₁ (mkF mt 1 #[.val (.ref a)] [(.ref a)])
  obtain ⟨v12, _, ⟨T12, L12, k12, n12⟩, -, X12, ⟨Lc12, hQ12, l12, y12, z12⟩, st12⟩ := X0.specialBack hx (y := (⟨"java/util/AbstractMap", "<init>", "()V"⟩ : MethodName)) rfl hown (mvT hZ (hw _ (List.mem_of_getElem? (i := 16) rfl))) (mvT hZ (hw _ (List.mem_of_getElem? (i := 17) rfl))) (mvT hZ (hw _ (List.mem_of_getElem? (i := 21) rfl))) (by decide) (backOf (W := 0) (rm_am l Z a0 hw [] a h0 n0 Z0 ) hZ (hw _ (List.mem_of_getElem? (i := 21) rfl)) (hw _ (List.mem_of_getElem? (i := 20) rfl)) (by decide) (by decide)) (g := (mkF mt 1 #[.val (.ref a)] [(.ref a)])) rfl (by rw [hml]; rfl) (Steps.refl _) (a := a) (argsL := []) (rest := []) (lenOf pd_0 rfl) rfl (by show 2 * 0 + _ ≤ _; exact Nat.le_of_eq rfl) (hb hby d_jdk_69_method_7_1) (fun _ _ => ⟨rfl, e0, (by decide : 0 + 0 ≤ _), (by decide : 0 + 0 ≤ _)⟩)
  dsimp only [Pt.U, Pt.locs, Pt.cells, Pt.slots] at X12 l12 y12 z12 st12 hQ12
  subst y12 z12
  replace X12 : Stand p l e _ s mt args below meth cd T12 L12 0 0 := X12
  obtain ⟨h12, e12⟩ : ∃ z, T12.heap = z := ⟨_, rfl⟩
  rw [e12] at hQ12
  obtain ⟨rfl, Nq12, eh12⟩ := hQ12
  have N12 : Fr n0 L12 := by rw [l12]; exact Fr.app N0 Nq12
  rw [eh12] at e12
  refine Win.tr ?_ st12
  show Win p e below _ T12 (mkF mt 4 #[.val (.ref a)] [])
  refine Win.st ?_ (fun tq kq => XS.aloadN X12.here hx rfl (hb hby d_jdk_69_method_7_4) rfl rfl kq)
  show Win p e below _ T12 (mkF mt 5 #[.val (.ref a)] [(.ref a)])
  refine Win.st ?_ (X12.ldcFloatC hx hown (mvT hZ (hw _ (List.mem_of_getElem? (i := 23) rfl))) (g := (mkF mt 5 #[.val (.ref a)] [(.ref a)])) rfl (hb hby d_jdk_69_method_7_5))
  show Win p e below _ T12 (mkF mt 7 #[.val (.ref a)] [(.float (1061158912 : UInt32)), (.ref a)])
  obtain ⟨T13, h13, X13, e13, W13, st13⟩ := putF X12 hx hZ hown (host := "") (Or.inl (hw _ (List.mem_of_getElem? (i := 24) rfl))) Via.refl e12 F1 E (Or.inr ⟨(hw _ (List.mem_of_getElem? (i := 25) rfl)), rfl, hnm⟩) (hw _ (List.mem_of_getElem? (i := 11) rfl)) (ty := .float) (by decide) rfl rfl (g := (mkF mt 7 #[.val (.ref a)] [(.float (1061158912 : UInt32)), (.ref a)])) rfl rfl (hb hby d_jdk_69_method_7_7)
  obtain ⟨L13, X13, N13⟩ := own_hide X13 N12 ga
  have kp13 := Keep.of_wr W13
  have fw13 := F1.same W13
  have f14_21 := E.keep kp13
  have Z15 : n0 ≤ h13.size := Nat.le_trans Z0 kp13.1
  have K16 : Keep h0 h13 [a] := Keep.trans (Keep.refl h0 [a]) kp13 (allS (Or.inl (List.mem_of_getElem? (i := 0) rfl)) all0)
  refine Win.st ?_ st13
  show Win p e below _ T13 (mkF mt 10 #[.val (.ref a)] [])
  exact Win.retV X13 hx hlk e13 hrt (hb hby d_jdk_69_method_7_10) (by decide) (by decide) ⟨rfl, N13, K16⟩
theorem d_prog_84_method_1_0 : decode prog_84_method_1_code 0 = .ok (.aload_n 0, 1) := by decide +kernel
theorem d_prog_84_method_1_1 : decode prog_84_method_1_code 1 = .ok (.invokespecial 1, 3) := by decide +kernel
theorem d_prog_84_method_1_4 : decode prog_84_method_1_code 4 = .ok (.aload_n 0, 1) := by decide +kernel
theorem d_prog_84_method_1_5 : decode prog_84_method_1_code 5 = .ok (.new 7, 3) := by decide +kernel
theorem d_prog_84_method_1_8 : decode prog_84_method_1_code 8 = .ok (.dup, 1) := by decide +kernel
theorem d_prog_84_method_1_9 : decode prog_84_method_1_code 9 = .ok (.invokespecial 9, 3) := by decide +kernel
theorem d_prog_84_method_1_12 : decode prog_84_method_1_code 12 = .ok (.putfield 10, 3) := by decide +kernel
theorem d_prog_84_method_1_15 : decode prog_84_method_1_code 15 = .ok (.return_, 1) := by decide +kernel
theorem pn_2 : plainName "com/example/interleave/interleave/Tally" = true := by first | (simp [plainName, overriddenIn]; done) | decide +kernel
theorem ef_tinit (mt : MethodId) (a : Addr) : entryFrame mt #[(.ref a)] 1 = mkF mt 0 #[.val (.ref a)] [] := by first | (simp [entryFrame, mkF, argsToLocals, Value.category]; done) | rfl
def Q_tinit (Z : State) (a : Addr) (st : Int64) (cm : Int64) (nn : Int64) (lo : Int64) (re : Int64) (fa : Int64) (h0 : Heap) (n0 : Nat) (v : Option Value) (h : Heap) (L : List Loc) : Prop := v = none ∧ Fr n0 L ∧ Keep h0 h [a] ∧ Fld Z h a "com/example/interleave/interleave/Tally" "started" "J" (.long st) ∧ Fld Z h a "com/example/interleave/interleave/Tally" "committed" "J" (.long cm) ∧ Fld Z h a "com/example/interleave/interleave/Tally" "committedNanos" "J" (.long nn) ∧ Fld Z h a "com/example/interleave/interleave/Tally" "longestNanos" "J" (.long lo) ∧ Fld Z h a "com/example/interleave/interleave/Tally" "retried" "J" (.long re) ∧ Fld Z h a "com/example/interleave/interleave/Tally" "failed" "J" (.long fa)
set_option maxRecDepth 65536 in
set_option maxHeartbeats 40000000 in
theorem rm_tinit (l : Launch) (Z : State) (a0 : Array Value) (hw : ∀ d ∈ tables_1, d.before a0 Z = true) (ws : List Jvm.Cond) (a : Addr) (st : Int64) (cm : Int64) (nn : Int64) (lo : Int64) (re : Int64) (fa : Int64) (h0 : Heap) (n0 : Nat) (Z0 : n0 ≤ h0.size) (E : Exa Z h0 a "com/example/interleave/interleave/Tally") (F_st : Fld Z h0 a "com/example/interleave/interleave/Tally" "started" "J" (.long st)) (F_cm : Fld Z h0 a "com/example/interleave/interleave/Tally" "committed" "J" (.long cm)) (F_nn : Fld Z h0 a "com/example/interleave/interleave/Tally" "committedNanos" "J" (.long nn)) (F_lo : Fld Z h0 a "com/example/interleave/interleave/Tally" "longestNanos" "J" (.long lo)) (F_re : Fld Z h0 a "com/example/interleave/interleave/Tally" "retried" "J" (.long re)) (F_fa : Fld Z h0 a "com/example/interleave/interleave/Tally" "failed" "J" (.long fa)) (ga : n0 ≤ a) (F_m : Fld Z h0 a "com/example/interleave/interleave/Tally" "failures" "Ljava/util/Map;" .null) :
    MetFree l (⟨"com/example/interleave/interleave/Tally", "<init>", "()V"⟩ : MethodName) (head1 (Jvm.Cond.code (⟨"com/example/interleave/interleave/Tally", "<init>", "()V"⟩ : MethodName) prog_84_method_1_code 1 none :: ws) ({ frames := 3, cells := 1, slots := 8, locals := 38 } : Room)) (fun aa UU => aa = #[(.ref a)] ∧ Z.Warmed39 UU.vm ∧ UU.heap = h0) (fun _ _ _ _ _ => True) (fun _ UU oo UU' => ∃ vv LL, oo = .returned vv ∧ Q_tinit Z a st cm nn lo re fa h0 n0 vv UU'.heap LL ∧ FrameEnd UU oo UU' LL ({ frames := 3, cells := 1, slots := 8, locals := 38 } : Room).cells ({ frames := 3, cells := 1, slots := 8, locals := 38 } : Room).slots) := by
  refine MetFree.of_bodySF (plainFor_of_name pn_2) hisR ?_
  intro p e s mt args below meth cd s₁ Bd hml0 hP hK
  obtain ⟨hA, hZ, hh⟩ := hP
  have hx := Bd.exec
  have hby := Bd.bytes
  have hml : cd.maxLocals = 1 := hml0
  have hown : s.vm.findClass "com/example/interleave/interleave/Tally" = some mt.cls := findClass_of_methodNamed Bd.named
  have hnm := (name_of_methodNamed Bd.named Bd.method).1
  have hlk : meth.locks = false := BodyLoose.notSynchronized Bd
  have hrt := Bd.returns
  have X0 : Stand p l e ({ frames := 3, cells := 1, slots := 8, locals := 38 } : Room) s mt args below meth cd s₁ [] 0 0 := Stand.of_body Bd
  have e0 : s₁.heap = h0 := by rw [← hh, Bd.state]; rfl
  have N0 := Fr.nil n0
  show Win p e below (Ends s (Q_tinit Z a st cm nn lo re fa h0 n0) ({ frames := 3, cells := 1, slots := 8, locals := 38 } : Room).cells ({ frames := 3, cells := 1, slots := 8, locals := 38 } : Room).slots) s₁ (entryFrame mt args 1)
  rw [hA, ef_tinit]
  refine Win.st ?_ (fun tq kq => XS.aloadN X0.here hx rfl (hb hby d_prog_84_method_1_0) rfl rfl kq)
  show Win p e below _ s₁ (mkF mt 1 #[.val (.ref a)] [(.ref a)])
  obtain ⟨T17, X17, e17, st17⟩ := initO X0 hx hZ hown (hw _ (List.mem_of_getElem? (i := 7) rfl)) (hw _ (List.mem_of_getElem? (i := 8) rfl)) (hw _ (List.mem_of_getElem? (i := 9) rfl)) e0 (g := (mkF mt 1 #[.val (.ref a)] [(.ref a)])) rfl (by rw [hml]; rfl) rfl (hb hby d_prog_84_method_1_1) (by decide) (W := 0) (by show 2 * 0 + _ ≤ _; exact Nat.le_of_eq rfl) (by decide)
  refine Win.st ?_ st17
  show Win p e below _ T17 (mkF mt 4 #[.val (.ref a)] [])
  refine Win.st ?_ (fun tq kq => XS.aloadN X17.here hx rfl (hb hby d_prog_84_method_1_4) rfl rfl kq)
  show Win p e below _ T17 (mkF mt 5 #[.val (.ref a)] [(.ref a)])
  obtain ⟨T18, h18, X18, e18, E18, A18, D18, -, st18⟩ := newO X17 hx hZ hown (hw _ (List.mem_of_getElem? (i := 10) rfl)) (hw _ (List.mem_of_getElem? (i := 11) rfl)) (hw _ (List.mem_of_getElem? (i := 12) rfl)) e17 (g := (mkF mt 5 #[.val (.ref a)] [(.ref a)])) rfl (hb hby d_prog_84_method_1_5) (by decide) (by decide)
  obtain ⟨b18, gq18⟩ : ∃ z, z = h0.size := ⟨_, rfl⟩
  rw [← gq18] at A18 D18 st18
  have ne19 : a ≠ b18 := own_new gq18 E.lt
  have g20 : n0 ≤ b18 := own_newle Z0 gq18
  have z21 : h0.size ≤ b18 := own_newle (Keep.refl h0 [a]).1 gq18
  have ke18 := own_kext E18
  replace X18 : Stand p l e _ s mt args below meth cd T18 _ 1 8 := X18
  have f22_15 := E.keep ke18
  have f22_16 := F_st.keep ke18 nin0
  have f22_17 := F_cm.keep ke18 nin0
  have f22_18 := F_nn.keep ke18 nin0
  have f22_19 := F_lo.keep ke18 nin0
  have f22_20 := F_re.keep ke18 nin0
  have f22_21 := F_fa.keep ke18 nin0
  have f22_22 := F_m.keep ke18 nin0
  have Z23 : n0 ≤ h18.size := Nat.le_trans Z0 ke18.1
  have K24 : Keep h0 h18 [a] := Keep.trans (Keep.refl h0 [a]) ke18 all0
  have fn18_loadFactor : Fld Z h18 b18 "java/util/HashMap" "loadFactor" "F" (.float (0 : UInt32)) := D18 (Or.inr (hw _ (List.mem_of_getElem? (i := 25) rfl))) (ty := .float) (by decide)
  refine Win.st ?_ st18
  show Win p e below _ T18 (mkF mt 8 #[.val (.ref a)] [(.ref b18), (.ref a)])
  refine Win.st ?_ (fun tq kq => XS.dup X18.here hx rfl (hb hby d_prog_84_method_1_8) rfl rfl kq)
  show Win p e below _ T18 (mkF mt 9 #[.val (.ref a)] [(.ref b18), (.ref b18), (.ref a)])
  obtain ⟨v25, _, ⟨T25, L25, k25, n25⟩, -, X25, ⟨Lc25, hQ25, l25, y25, z25⟩, st25⟩ := X18.specialBack hx (y := (⟨"java/util/HashMap", "<init>", "()V"⟩ : MethodName)) rfl hown (mvT hZ (hw _ (List.mem_of_getElem? (i := 13) rfl))) (mvT hZ (hw _ (List.mem_of_getElem? (i := 14) rfl))) (mvT hZ (hw _ (List.mem_of_getElem? (i := 15) rfl))) (by decide) (backOf (W := 2) (rm_hm l Z a0 hw [] b18 (.float (0 : UInt32)) h18 n0 Z23 A18 fn18_loadFactor g20) hZ (hw _ (List.mem_of_getElem? (i := 15) rfl)) (hw _ (List.mem_of_getElem? (i := 12) rfl)) (by decide) (by decide)) (g := (mkF mt 9 #[.val (.ref a)] [(.ref b18), (.ref b18), (.ref a)])) rfl (by rw [hml]; rfl) (Steps.refl _) (a := b18) (argsL := []) (rest := [(.ref b18), (.ref a)]) (lenOf pd_0 rfl) rfl (by show 2 * 0 + _ ≤ _; exact Nat.le_of_eq rfl) (hb hby d_prog_84_method_1_9) (fun _ _ => ⟨rfl, e18, (by decide : 1 + 0 ≤ _), (by decide : 8 + 0 ≤ _)⟩)
  dsimp only [Pt.U, Pt.locs, Pt.cells, Pt.slots] at X25 l25 y25 z25 st25 hQ25
  subst y25 z25
  replace X25 : Stand p l e _ s mt args below meth cd T25 L25 1 8 := X25
  obtain ⟨h25, e25⟩ : ∃ z, T25.heap = z := ⟨_, rfl⟩
  rw [e25] at hQ25
  obtain ⟨rfl, Nq25, K25⟩ := hQ25
  have N25 : Fr n0 L25 := by rw [l25]; exact Fr.app N0 Nq25
  have f26_38 := f22_15.keep K25
  have f26_39 := f22_16.keep K25 (ninS ne19 nin0)
  have f26_40 := f22_17.keep K25 (ninS ne19 nin0)
  have f26_41 := f22_18.keep K25 (ninS ne19 nin0)
  have f26_42 := f22_19.keep K25 (ninS ne19 nin0)
  have f26_43 := f22_20.keep K25 (ninS ne19 nin0)
  have f26_44 := f22_21.keep K25 (ninS ne19 nin0)
  have f26_45 := f22_22.keep K25 (ninS ne19 nin0)
  have f26_46 := A18.keep K25
  have Z27 : n0 ≤ h25.size := Nat.le_trans Z23 K25.1
  have K28 : Keep h0 h25 [a] := Keep.trans K24 K25 (allS (Or.inr z21) all0)
  refine Win.tr ?_ st25
  show Win p e below _ T25 (mkF mt 12 #[.val (.ref a)] [(.ref b18), (.ref a)])
  obtain ⟨T29, h29, X29, e29, W29, st29⟩ := putF X25 hx hZ hown (host := "") (Or.inl (hw _ (List.mem_of_getElem? (i := 26) rfl))) Via.refl e25 f26_45 f26_38 (Or.inr ⟨(hw _ (List.mem_of_getElem? (i := 27) rfl)), rfl, hnm⟩) (hw _ (List.mem_of_getElem? (i := 2) rfl)) (ty := (.object "java/util/Map")) (by decide) rfl rfl (g := (mkF mt 12 #[.val (.ref a)] [(.ref b18), (.ref a)])) rfl rfl (hb hby d_prog_84_method_1_12)
  obtain ⟨L29, X29, N29⟩ := own_hide X29 N25 ga
  have kp29 := Keep.of_wr W29
  have f29_54 := f26_39.other W29 (Or.inr (slot_ne (Or.inl (hw _ (List.mem_of_getElem? (i := 64) rfl))) (Or.inr (hw _ (List.mem_of_getElem? (i := 27) rfl))) (by decide) (t := .long) (t' := (.object "java/util/Map")) (by decide) (by decide)))
  have f29_55 := f26_40.other W29 (Or.inr (slot_ne (Or.inl (hw _ (List.mem_of_getElem? (i := 34) rfl))) (Or.inr (hw _ (List.mem_of_getElem? (i := 27) rfl))) (by decide) (t := .long) (t' := (.object "java/util/Map")) (by decide) (by decide)))
  have f29_56 := f26_41.other W29 (Or.inr (slot_ne (Or.inl (hw _ (List.mem_of_getElem? (i := 36) rfl))) (Or.inr (hw _ (List.mem_of_getElem? (i := 27) rfl))) (by decide) (t := .long) (t' := (.object "java/util/Map")) (by decide) (by decide)))
  have f29_57 := f26_42.other W29 (Or.inr (slot_ne (Or.inl (hw _ (List.mem_of_getElem? (i := 38) rfl))) (Or.inr (hw _ (List.mem_of_getElem? (i := 27) rfl))) (by decide) (t := .long) (t' := (.object "java/util/Map")) (by decide) (by decide)))
  have f29_58 := f26_43.other W29 (Or.inr (slot_ne (Or.inl (hw _ (List.mem_of_getElem? (i := 78) rfl))) (Or.inr (hw _ (List.mem_of_getElem? (i := 27) rfl))) (by decide) (t := .long) (t' := (.object "java/util/Map")) (by decide) (by decide)))
  have f29_59 := f26_44.other W29 (Or.inr (slot_ne (Or.inl (hw _ (List.mem_of_getElem? (i := 71) rfl))) (Or.inr (hw _ (List.mem_of_getElem? (i := 27) rfl))) (by decide) (t := .long) (t' := (.object "java/util/Map")) (by decide) (by decide)))
  have fw29 := f26_45.same W29
  have f30_61 := f26_38.keep kp29
  have f30_62 := f26_46.keep kp29
  have Z31 : n0 ≤ h29.size := Nat.le_trans Z27 kp29.1
  have K32 : Keep h0 h29 [a] := Keep.trans K28 kp29 (allS (Or.inl (List.mem_of_getElem? (i := 0) rfl)) all0)
  refine Win.st ?_ st29
  show Win p e below _ T29 (mkF mt 15 #[.val (.ref a)] [])
  exact Win.retV X29 hx hlk e29 hrt (hb hby d_prog_84_method_1_15) (by decide) (by decide) ⟨rfl, N29, K32, f29_54, f29_55, f29_56, f29_57, f29_58, f29_59⟩
theorem d_prog_84_method_3_0 : decode prog_84_method_3_code 0 = .ok (.aload_n 0, 1) := by decide +kernel
theorem d_prog_84_method_3_1 : decode prog_84_method_3_code 1 = .ok (.dup, 1) := by decide +kernel
theorem d_prog_84_method_3_2 : decode prog_84_method_3_code 2 = .ok (.getfield 20, 3) := by decide +kernel
theorem d_prog_84_method_3_5 : decode prog_84_method_3_code 5 = .ok (.lconst 1, 1) := by decide +kernel
theorem d_prog_84_method_3_6 : decode prog_84_method_3_code 6 = .ok (.ladd, 1) := by decide +kernel
theorem d_prog_84_method_3_7 : decode prog_84_method_3_code 7 = .ok (.putfield 20, 3) := by decide +kernel
theorem d_prog_84_method_3_10 : decode prog_84_method_3_code 10 = .ok (.aload_n 0, 1) := by decide +kernel
theorem d_prog_84_method_3_11 : decode prog_84_method_3_code 11 = .ok (.dup, 1) := by decide +kernel
theorem d_prog_84_method_3_12 : decode prog_84_method_3_code 12 = .ok (.getfield 23, 3) := by decide +kernel
theorem d_prog_84_method_3_15 : decode prog_84_method_3_code 15 = .ok (.lload_n 1, 1) := by decide +kernel
theorem d_prog_84_method_3_16 : decode prog_84_method_3_code 16 = .ok (.ladd, 1) := by decide +kernel
theorem d_prog_84_method_3_17 : decode prog_84_method_3_code 17 = .ok (.putfield 23, 3) := by decide +kernel
theorem d_prog_84_method_3_20 : decode prog_84_method_3_code 20 = .ok (.aload_n 0, 1) := by decide +kernel
theorem d_prog_84_method_3_21 : decode prog_84_method_3_code 21 = .ok (.aload_n 0, 1) := by decide +kernel
theorem d_prog_84_method_3_22 : decode prog_84_method_3_code 22 = .ok (.getfield 26, 3) := by decide +kernel
theorem d_prog_84_method_3_25 : decode prog_84_method_3_code 25 = .ok (.lload_n 1, 1) := by decide +kernel
theorem d_prog_84_method_3_26 : decode prog_84_method_3_code 26 = .ok (.invokestatic 29, 3) := by decide +kernel
theorem pd_1 : parseMethodDescriptor "(JJ)J" = some ⟨[.long, .long], some .long⟩ := by decide +kernel
theorem d_prog_84_method_3_29 : decode prog_84_method_3_code 29 = .ok (.putfield 26, 3) := by decide +kernel
theorem d_prog_84_method_3_32 : decode prog_84_method_3_code 32 = .ok (.return_, 1) := by decide +kernel
theorem ef_tcommit (mt : MethodId) (a : Addr) (x : Int64) : entryFrame mt #[(.ref a), (.long x)] 3 = mkF mt 0 #[.val (.ref a), .val (.long x), .second] [] := by first | (simp [entryFrame, mkF, argsToLocals, Value.category]; done) | rfl
def Q_tcommit (Z : State) (a : Addr) (x : Int64) (st : Int64) (cm : Int64) (nn : Int64) (lo : Int64) (re : Int64) (fa : Int64) (h0 : Heap) (n0 : Nat) (v : Option Value) (h : Heap) (L : List Loc) : Prop := v = none ∧ Fr n0 L ∧ Keep h0 h [a] ∧ Fld Z h a "com/example/interleave/interleave/Tally" "started" "J" (.long st) ∧ Fld Z h a "com/example/interleave/interleave/Tally" "committed" "J" (.long (cm + (1 : Int64))) ∧ Fld Z h a "com/example/interleave/interleave/Tally" "committedNanos" "J" (.long (nn + x)) ∧ Fld Z h a "com/example/interleave/interleave/Tally" "longestNanos" "J" (.long (own_maxL lo x)) ∧ Fld Z h a "com/example/interleave/interleave/Tally" "retried" "J" (.long re) ∧ Fld Z h a "com/example/interleave/interleave/Tally" "failed" "J" (.long fa)
set_option maxRecDepth 65536 in
set_option maxHeartbeats 40000000 in
theorem rm_tcommit (l : Launch) (Z : State) (a0 : Array Value) (hw : ∀ d ∈ tables_1, d.before a0 Z = true) (ws : List Jvm.Cond) (a : Addr) (x : Int64) (st : Int64) (cm : Int64) (nn : Int64) (lo : Int64) (re : Int64) (fa : Int64) (h0 : Heap) (n0 : Nat) (Z0 : n0 ≤ h0.size) (E : Exa Z h0 a "com/example/interleave/interleave/Tally") (F_st : Fld Z h0 a "com/example/interleave/interleave/Tally" "started" "J" (.long st)) (F_cm : Fld Z h0 a "com/example/interleave/interleave/Tally" "committed" "J" (.long cm)) (F_nn : Fld Z h0 a "com/example/interleave/interleave/Tally" "committedNanos" "J" (.long nn)) (F_lo : Fld Z h0 a "com/example/interleave/interleave/Tally" "longestNanos" "J" (.long lo)) (F_re : Fld Z h0 a "com/example/interleave/interleave/Tally" "retried" "J" (.long re)) (F_fa : Fld Z h0 a "com/example/interleave/interleave/Tally" "failed" "J" (.long fa)) (ga : n0 ≤ a) :
    MetFree l (⟨"com/example/interleave/interleave/Tally", "commit", "(J)V"⟩ : MethodName) (head1 (Jvm.Cond.code (⟨"com/example/interleave/interleave/Tally", "commit", "(J)V"⟩ : MethodName) prog_84_method_3_code 3 none :: ws) ({ frames := 1, cells := 0, slots := 0, locals := 16 } : Room)) (fun aa UU => aa = #[(.ref a), (.long x)] ∧ Z.Warmed39 UU.vm ∧ UU.heap = h0) (fun _ _ _ _ _ => True) (fun _ UU oo UU' => ∃ vv LL, oo = .returned vv ∧ Q_tcommit Z a x st cm nn lo re fa h0 n0 vv UU'.heap LL ∧ FrameEnd UU oo UU' LL ({ frames := 1, cells := 0, slots := 0, locals := 16 } : Room).cells ({ frames := 1, cells := 0, slots := 0, locals := 16 } : Room).slots) := by
  refine MetFree.of_bodySF (plainFor_of_name pn_2) hisR ?_
  intro p e s mt args below meth cd s₁ Bd hml0 hP hK
  obtain ⟨hA, hZ, hh⟩ := hP
  have hx := Bd.exec
  have hby := Bd.bytes
  have hml : cd.maxLocals = 3 := hml0
  have hown : s.vm.findClass "com/example/interleave/interleave/Tally" = some mt.cls := findClass_of_methodNamed Bd.named
  have hnm := (name_of_methodNamed Bd.named Bd.method).1
  have hlk : meth.locks = false := BodyLoose.notSynchronized Bd
  have hrt := Bd.returns
  have X0 : Stand p l e ({ frames := 1, cells := 0, slots := 0, locals := 16 } : Room) s mt args below meth cd s₁ [] 0 0 := Stand.of_body Bd
  have e0 : s₁.heap = h0 := by rw [← hh, Bd.state]; rfl
  have N0 := Fr.nil n0
  show Win p e below (Ends s (Q_tcommit Z a x st cm nn lo re fa h0 n0) ({ frames := 1, cells := 0, slots := 0, locals := 16 } : Room).cells ({ frames := 1, cells := 0, slots := 0, locals := 16 } : Room).slots) s₁ (entryFrame mt args 3)
  rw [hA, ef_tcommit]
  refine Win.st ?_ (fun tq kq => XS.aloadN X0.here hx rfl (hb hby d_prog_84_method_3_0) rfl rfl kq)
  show Win p e below _ s₁ (mkF mt 1 #[.val (.ref a), .val (.long x), .second] [(.ref a)])
  refine Win.st ?_ (fun tq kq => XS.dup X0.here hx rfl (hb hby d_prog_84_method_3_1) rfl rfl kq)
  show Win p e below _ s₁ (mkF mt 2 #[.val (.ref a), .val (.long x), .second] [(.ref a), (.ref a)])
  obtain ⟨T33, X33, e33, st33⟩ := getF X0 hx hZ hown (host := "") (Or.inl (hw _ (List.mem_of_getElem? (i := 33) rfl))) Via.refl e0 F_cm (g := (mkF mt 2 #[.val (.ref a), .val (.long x), .second] [(.ref a), (.ref a)])) rfl rfl (hb hby d_prog_84_method_3_2)
  refine Win.st ?_ st33
  show Win p e below _ T33 (mkF mt 5 #[.val (.ref a), .val (.long x), .second] [(.long cm), (.ref a)])
  refine Win.st ?_ (fun tq kq => XS.lconst X33.here hx rfl (hb hby d_prog_84_method_3_5) kq)
  show Win p e below _ T33 (mkF mt 6 #[.val (.ref a), .val (.long x), .second] [(.long (1 : Int64)), (.long cm), (.ref a)])
  refine Win.st ?_ (fun tq kq => XS.ladd X33.here hx rfl (hb hby d_prog_84_method_3_6) rfl kq)
  show Win p e below _ T33 (mkF mt 7 #[.val (.ref a), .val (.long x), .second] [(.long (cm + (1 : Int64))), (.ref a)])
  obtain ⟨T34, h34, X34, e34, W34, st34⟩ := putF X33 hx hZ hown (host := "") (Or.inl (hw _ (List.mem_of_getElem? (i := 33) rfl))) Via.refl e33 F_cm E (Or.inl (hw _ (List.mem_of_getElem? (i := 34) rfl))) (hw _ (List.mem_of_getElem? (i := 2) rfl)) (ty := .long) (by decide) rfl rfl (g := (mkF mt 7 #[.val (.ref a), .val (.long x), .second] [(.long (cm + (1 : Int64))), (.ref a)])) rfl rfl (hb hby d_prog_84_method_3_7)
  obtain ⟨L34, X34, N34⟩ := own_hide X34 N0 ga
  have kp34 := Keep.of_wr W34
  have f34_14 := F_st.other W34 (Or.inr (slot_ne (Or.inl (hw _ (List.mem_of_getElem? (i := 64) rfl))) (Or.inl (hw _ (List.mem_of_getElem? (i := 34) rfl))) (by decide) (t := .long) (t' := .long) (by decide) (by decide)))
  have fw34 := F_cm.same W34
  have f34_16 := F_nn.other W34 (Or.inr (slot_ne (Or.inl (hw _ (List.mem_of_getElem? (i := 36) rfl))) (Or.inl (hw _ (List.mem_of_getElem? (i := 34) rfl))) (by decide) (t := .long) (t' := .long) (by decide) (by decide)))
  have f34_17 := F_lo.other W34 (Or.inr (slot_ne (Or.inl (hw _ (List.mem_of_getElem? (i := 38) rfl))) (Or.inl (hw _ (List.mem_of_getElem? (i := 34) rfl))) (by decide) (t := .long) (t' := .long) (by decide) (by decide)))
  have f34_18 := F_re.other W34 (Or.inr (slot_ne (Or.inl (hw _ (List.mem_of_getElem? (i := 78) rfl))) (Or.inl (hw _ (List.mem_of_getElem? (i := 34) rfl))) (by decide) (t := .long) (t' := .long) (by decide) (by decide)))
  have f34_19 := F_fa.other W34 (Or.inr (slot_ne (Or.inl (hw _ (List.mem_of_getElem? (i := 71) rfl))) (Or.inl (hw _ (List.mem_of_getElem? (i := 34) rfl))) (by decide) (t := .long) (t' := .long) (by decide) (by decide)))
  have f35_20 := E.keep kp34
  have Z36 : n0 ≤ h34.size := Nat.le_trans Z0 kp34.1
  have K37 : Keep h0 h34 [a] := Keep.trans (Keep.refl h0 [a]) kp34 (allS (Or.inl (List.mem_of_getElem? (i := 0) rfl)) all0)
  refine Win.st ?_ st34
  show Win p e below _ T34 (mkF mt 10 #[.val (.ref a), .val (.long x), .second] [])
  refine Win.st ?_ (fun tq kq => XS.aloadN X34.here hx rfl (hb hby d_prog_84_method_3_10) rfl rfl kq)
  show Win p e below _ T34 (mkF mt 11 #[.val (.ref a), .val (.long x), .second] [(.ref a)])
  refine Win.st ?_ (fun tq kq => XS.dup X34.here hx rfl (hb hby d_prog_84_method_3_11) rfl rfl kq)
  show Win p e below _ T34 (mkF mt 12 #[.val (.ref a), .val (.long x), .second] [(.ref a), (.ref a)])
  obtain ⟨T38, X38, e38, st38⟩ := getF X34 hx hZ hown (host := "") (Or.inl (hw _ (List.mem_of_getElem? (i := 35) rfl))) Via.refl e34 f34_16 (g := (mkF mt 12 #[.val (.ref a), .val (.long x), .second] [(.ref a), (.ref a)])) rfl rfl (hb hby d_prog_84_method_3_12)
  refine Win.st ?_ st38
  show Win p e below _ T38 (mkF mt 15 #[.val (.ref a), .val (.long x), .second] [(.long nn), (.ref a)])
  refine Win.st ?_ (fun tq kq => XS.lloadN X38.here hx rfl (hb hby d_prog_84_method_3_15) rfl kq)
  show Win p e below _ T38 (mkF mt 16 #[.val (.ref a), .val (.long x), .second] [(.long x), (.long nn), (.ref a)])
  refine Win.st ?_ (fun tq kq => XS.ladd X38.here hx rfl (hb hby d_prog_84_method_3_16) rfl kq)
  show Win p e below _ T38 (mkF mt 17 #[.val (.ref a), .val (.long x), .second] [(.long (nn + x)), (.ref a)])
  obtain ⟨T39, h39, X39, e39, W39, st39⟩ := putF X38 hx hZ hown (host := "") (Or.inl (hw _ (List.mem_of_getElem? (i := 35) rfl))) Via.refl e38 f34_16 f35_20 (Or.inl (hw _ (List.mem_of_getElem? (i := 36) rfl))) (hw _ (List.mem_of_getElem? (i := 2) rfl)) (ty := .long) (by decide) rfl rfl (g := (mkF mt 17 #[.val (.ref a), .val (.long x), .second] [(.long (nn + x)), (.ref a)])) rfl rfl (hb hby d_prog_84_method_3_17)
  obtain ⟨L39, X39, N39⟩ := own_hide X39 N34 ga
  have kp39 := Keep.of_wr W39
  have f39_39 := f34_14.other W39 (Or.inr (slot_ne (Or.inl (hw _ (List.mem_of_getElem? (i := 64) rfl))) (Or.inl (hw _ (List.mem_of_getElem? (i := 36) rfl))) (by decide) (t := .long) (t' := .long) (by decide) (by decide)))
  have f39_40 := fw34.other W39 (Or.inr (slot_ne (Or.inl (hw _ (List.mem_of_getElem? (i := 34) rfl))) (Or.inl (hw _ (List.mem_of_getElem? (i := 36) rfl))) (by decide) (t := .long) (t' := .long) (by decide) (by decide)))
  have fw39 := f34_16.same W39
  have f39_42 := f34_17.other W39 (Or.inr (slot_ne (Or.inl (hw _ (List.mem_of_getElem? (i := 38) rfl))) (Or.inl (hw _ (List.mem_of_getElem? (i := 36) rfl))) (by decide) (t := .long) (t' := .long) (by decide) (by decide)))
  have f39_43 := f34_18.other W39 (Or.inr (slot_ne (Or.inl (hw _ (List.mem_of_getElem? (i := 78) rfl))) (Or.inl (hw _ (List.mem_of_getElem? (i := 36) rfl))) (by decide) (t := .long) (t' := .long) (by decide) (by decide)))
  have f39_44 := f34_19.other W39 (Or.inr (slot_ne (Or.inl (hw _ (List.mem_of_getElem? (i := 71) rfl))) (Or.inl (hw _ (List.mem_of_getElem? (i := 36) rfl))) (by decide) (t := .long) (t' := .long) (by decide) (by decide)))
  have f40_45 := f35_20.keep kp39
  have Z41 : n0 ≤ h39.size := Nat.le_trans Z36 kp39.1
  have K42 : Keep h0 h39 [a] := Keep.trans K37 kp39 (allS (Or.inl (List.mem_of_getElem? (i := 0) rfl)) all0)
  refine Win.st ?_ st39
  show Win p e below _ T39 (mkF mt 20 #[.val (.ref a), .val (.long x), .second] [])
  refine Win.st ?_ (fun tq kq => XS.aloadN X39.here hx rfl (hb hby d_prog_84_method_3_20) rfl rfl kq)
  show Win p e below _ T39 (mkF mt 21 #[.val (.ref a), .val (.long x), .second] [(.ref a)])
  refine Win.st ?_ (fun tq kq => XS.aloadN X39.here hx rfl (hb hby d_prog_84_method_3_21) rfl rfl kq)
  show Win p e below _ T39 (mkF mt 22 #[.val (.ref a), .val (.long x), .second] [(.ref a), (.ref a)])
  obtain ⟨T43, X43, e43, st43⟩ := getF X39 hx hZ hown (host := "") (Or.inl (hw _ (List.mem_of_getElem? (i := 37) rfl))) Via.refl e39 f39_42 (g := (mkF mt 22 #[.val (.ref a), .val (.long x), .second] [(.ref a), (.ref a)])) rfl rfl (hb hby d_prog_84_method_3_22)
  refine Win.st ?_ st43
  show Win p e below _ T43 (mkF mt 25 #[.val (.ref a), .val (.long x), .second] [(.long lo), (.ref a)])
  refine Win.st ?_ (fun tq kq => XS.lloadN X43.here hx rfl (hb hby d_prog_84_method_3_25) rfl kq)
  show Win p e below _ T43 (mkF mt 26 #[.val (.ref a), .val (.long x), .second] [(.long x), (.long lo), (.ref a)])
  obtain ⟨v44, _, ⟨T44, L44, k44, n44⟩, -, X44, ⟨Lc44, hQ44, l44, y44, z44⟩, st44⟩ := Jvm.LawKit.callS X43 hx (y := (⟨"java/lang/Math", "max", "(JJ)J"⟩ : MethodName)) hown (mvT hZ (hw _ (List.mem_of_getElem? (i := 39) rfl))) (mvT hZ (hw _ (List.mem_of_getElem? (i := 40) rfl))) (mvT hZ (hw _ (List.mem_of_getElem? (i := 41) rfl))) (mvT hZ (hw _ (List.mem_of_getElem? (i := 42) rfl))) (by decide) (backOf (W := 1) (rm_maxj l Z a0 hw [] lo x h39 n0 Z41 ) hZ (hw _ (List.mem_of_getElem? (i := 42) rfl)) (hw _ (List.mem_of_getElem? (i := 41) rfl)) (by decide) (by decide)) (g := (mkF mt 26 #[.val (.ref a), .val (.long x), .second] [(.long x), (.long lo), (.ref a)])) rfl (by rw [hml]; rfl) (argsL := [(.long lo), (.long x)]) (rest := [(.ref a)]) (lenOf pd_1 rfl) rfl (by show 2 * 0 + _ ≤ _; exact Nat.le_of_eq rfl) (hb hby d_prog_84_method_3_26) (fun _ _ => ⟨rfl, e43, (by decide : 0 + 0 ≤ _), (by decide : 0 + 0 ≤ _)⟩)
  dsimp only [Pt.U, Pt.locs, Pt.cells, Pt.slots] at X44 l44 y44 z44 st44 hQ44
  subst y44 z44
  replace X44 : Stand p l e _ s mt args below meth cd T44 L44 0 0 := X44
  obtain ⟨h44, e44⟩ : ∃ z, T44.heap = z := ⟨_, rfl⟩
  rw [e44] at hQ44
  obtain ⟨rfl, Nq44, eh44⟩ := hQ44
  have N44 : Fr n0 L44 := by rw [l44]; exact Fr.app N39 Nq44
  rw [eh44] at e44
  refine Win.st ?_ st44
  show Win p e below _ T44 (mkF mt 29 #[.val (.ref a), .val (.long x), .second] [(.long (own_maxL lo x)), (.ref a)])
  obtain ⟨T45, h45, X45, e45, W45, st45⟩ := putF X44 hx hZ hown (host := "") (Or.inl (hw _ (List.mem_of_getElem? (i := 37) rfl))) Via.refl e44 f39_42 f40_45 (Or.inl (hw _ (List.mem_of_getElem? (i := 38) rfl))) (hw _ (List.mem_of_getElem? (i := 2) rfl)) (ty := .long) (by decide) rfl rfl (g := (mkF mt 29 #[.val (.ref a), .val (.long x), .second] [(.long (own_maxL lo x)), (.ref a)])) rfl rfl (hb hby d_prog_84_method_3_29)
  obtain ⟨L45, X45, N45⟩ := own_hide X45 N44 ga
  have kp45 := Keep.of_wr W45
  have f45_73 := f39_39.other W45 (Or.inr (slot_ne (Or.inl (hw _ (List.mem_of_getElem? (i := 64) rfl))) (Or.inl (hw _ (List.mem_of_getElem? (i := 38) rfl))) (by decide) (t := .long) (t' := .long) (by decide) (by decide)))
  have f45_74 := f39_40.other W45 (Or.inr (slot_ne (Or.inl (hw _ (List.mem_of_getElem? (i := 34) rfl))) (Or.inl (hw _ (List.mem_of_getElem? (i := 38) rfl))) (by decide) (t := .long) (t' := .long) (by decide) (by decide)))
  have f45_75 := fw39.other W45 (Or.inr (slot_ne (Or.inl (hw _ (List.mem_of_getElem? (i := 36) rfl))) (Or.inl (hw _ (List.mem_of_getElem? (i := 38) rfl))) (by decide) (t := .long) (t' := .long) (by decide) (by decide)))
  have fw45 := f39_42.same W45
  have f45_77 := f39_43.other W45 (Or.inr (slot_ne (Or.inl (hw _ (List.mem_of_getElem? (i := 78) rfl))) (Or.inl (hw _ (List.mem_of_getElem? (i := 38) rfl))) (by decide) (t := .long) (t' := .long) (by decide) (by decide)))
  have f45_78 := f39_44.other W45 (Or.inr (slot_ne (Or.inl (hw _ (List.mem_of_getElem? (i := 71) rfl))) (Or.inl (hw _ (List.mem_of_getElem? (i := 38) rfl))) (by decide) (t := .long) (t' := .long) (by decide) (by decide)))
  have f46_79 := f40_45.keep kp45
  have Z47 : n0 ≤ h45.size := Nat.le_trans Z41 kp45.1
  have K48 : Keep h0 h45 [a] := Keep.trans K42 kp45 (allS (Or.inl (List.mem_of_getElem? (i := 0) rfl)) all0)
  refine Win.st ?_ st45
  show Win p e below _ T45 (mkF mt 32 #[.val (.ref a), .val (.long x), .second] [])
  exact Win.retV X45 hx hlk e45 hrt (hb hby d_prog_84_method_3_32) (by decide) (by decide) ⟨rfl, N45, K48, f45_73, f45_74, f45_75, fw45, f45_77, f45_78⟩
theorem d_prog_84_method_13_0 : decode prog_84_method_13_code 0 = .ok (.aload_n 0, 1) := by decide +kernel
theorem d_prog_84_method_13_1 : decode prog_84_method_13_code 1 = .ok (.getfield 20, 3) := by decide +kernel
theorem d_prog_84_method_13_4 : decode prog_84_method_13_code 4 = .ok (.lconst 0, 1) := by decide +kernel
theorem d_prog_84_method_13_5 : decode prog_84_method_13_code 5 = .ok (.lcmp, 1) := by decide +kernel
theorem d_prog_84_method_13_6 : decode prog_84_method_13_code 6 = .ok (.ifCond .ne 7, 3) := by decide +kernel
theorem d_prog_84_method_13_9 : decode prog_84_method_13_code 9 = .ok (.lconst 0, 1) := by decide +kernel
theorem d_prog_84_method_13_10 : decode prog_84_method_13_code 10 = .ok (.goto 12, 3) := by decide +kernel
theorem d_prog_84_method_13_22 : decode prog_84_method_13_code 22 = .ok (.lreturn, 1) := by decide +kernel
theorem d_prog_84_method_13_13 : decode prog_84_method_13_code 13 = .ok (.aload_n 0, 1) := by decide +kernel
theorem d_prog_84_method_13_14 : decode prog_84_method_13_code 14 = .ok (.getfield 23, 3) := by decide +kernel
theorem d_prog_84_method_13_17 : decode prog_84_method_13_code 17 = .ok (.aload_n 0, 1) := by decide +kernel
theorem d_prog_84_method_13_18 : decode prog_84_method_13_code 18 = .ok (.getfield 20, 3) := by decide +kernel
theorem d_prog_84_method_13_21 : decode prog_84_method_13_code 21 = .ok (.ldiv, 1) := by decide +kernel
theorem ef_tavg (mt : MethodId) (a : Addr) : entryFrame mt #[(.ref a)] 1 = mkF mt 0 #[.val (.ref a)] [] := by first | (simp [entryFrame, mkF, argsToLocals, Value.category]; done) | rfl
def Q_tavg (Z : State) (a : Addr) (cm : Int64) (nn : Int64) (h0 : Heap) (n0 : Nat) (v : Option Value) (h : Heap) (L : List Loc) : Prop := v = some (.long (own_avg cm nn)) ∧ Fr n0 L ∧ h = h0
set_option maxRecDepth 65536 in
set_option maxHeartbeats 40000000 in
theorem rm_tavg (l : Launch) (Z : State) (a0 : Array Value) (hw : ∀ d ∈ tables_1, d.before a0 Z = true) (ws : List Jvm.Cond) (a : Addr) (cm : Int64) (nn : Int64) (h0 : Heap) (n0 : Nat) (Z0 : n0 ≤ h0.size) (F1 : Fld Z h0 a "com/example/interleave/interleave/Tally" "committed" "J" (.long cm)) (F2 : Fld Z h0 a "com/example/interleave/interleave/Tally" "committedNanos" "J" (.long nn)) :
    MetFree l (⟨"com/example/interleave/interleave/Tally", "averageNanos", "()J"⟩ : MethodName) (head1 (Jvm.Cond.code (⟨"com/example/interleave/interleave/Tally", "averageNanos", "()J"⟩ : MethodName) prog_84_method_13_code 1 (some .long) :: ws) ({ frames := 0, cells := 0, slots := 0, locals := 0 } : Room)) (fun aa UU => aa = #[(.ref a)] ∧ Z.Warmed39 UU.vm ∧ UU.heap = h0) (fun _ _ _ _ _ => True) (fun _ UU oo UU' => ∃ vv LL, oo = .returned vv ∧ Q_tavg Z a cm nn h0 n0 vv UU'.heap LL ∧ FrameEnd UU oo UU' LL ({ frames := 0, cells := 0, slots := 0, locals := 0 } : Room).cells ({ frames := 0, cells := 0, slots := 0, locals := 0 } : Room).slots) := by
  refine MetFree.of_bodySF (plainFor_of_name pn_2) hisR ?_
  intro p e s mt args below meth cd s₁ Bd hml0 hP hK
  obtain ⟨hA, hZ, hh⟩ := hP
  have hx := Bd.exec
  have hby := Bd.bytes
  have hml : cd.maxLocals = 1 := hml0
  have hown : s.vm.findClass "com/example/interleave/interleave/Tally" = some mt.cls := findClass_of_methodNamed Bd.named
  have hnm := (name_of_methodNamed Bd.named Bd.method).1
  have hlk : meth.locks = false := BodyLoose.notSynchronized Bd
  have hrt := Bd.returns
  have X0 : Stand p l e ({ frames := 0, cells := 0, slots := 0, locals := 0 } : Room) s mt args below meth cd s₁ [] 0 0 := Stand.of_body Bd
  have e0 : s₁.heap = h0 := by rw [← hh, Bd.state]; rfl
  have N0 := Fr.nil n0
  show Win p e below (Ends s (Q_tavg Z a cm nn h0 n0) ({ frames := 0, cells := 0, slots := 0, locals := 0 } : Room).cells ({ frames := 0, cells := 0, slots := 0, locals := 0 } : Room).slots) s₁ (entryFrame mt args 1)
  rw [hA, ef_tavg]
  refine Win.st ?_ (fun tq kq => XS.aloadN X0.here hx rfl (hb hby d_prog_84_method_13_0) rfl rfl kq)
  show Win p e below _ s₁ (mkF mt 1 #[.val (.ref a)] [(.ref a)])
  obtain ⟨T49, X49, e49, st49⟩ := getF X0 hx hZ hown (host := "") (Or.inl (hw _ (List.mem_of_getElem? (i := 33) rfl))) Via.refl e0 F1 (g := (mkF mt 1 #[.val (.ref a)] [(.ref a)])) rfl rfl (hb hby d_prog_84_method_13_1)
  refine Win.st ?_ st49
  show Win p e below _ T49 (mkF mt 4 #[.val (.ref a)] [(.long cm)])
  refine Win.st ?_ (fun tq kq => XS.lconst X49.here hx rfl (hb hby d_prog_84_method_13_4) kq)
  show Win p e below _ T49 (mkF mt 5 #[.val (.ref a)] [(.long (0 : Int64)), (.long cm)])
  refine Win.st ?_ (fun tq kq => XS.lcmp X49.here hx rfl (hb hby d_prog_84_method_13_5) rfl kq)
  show Win p e below _ T49 (mkF mt 6 #[.val (.ref a)] [(.int (lcmpW cm (0 : Int64)))])
  by_cases hc : (lcmpW cm (0 : Int64)) = (0 : Int32)
  · refine Win.st ?_ (fun tq kq => XS.ifNo X49.here hx rfl (hb hby d_prog_84_method_13_6) rfl ((if0 _ _).trans (teq hc).2) kq)
    show Win p e below _ T49 (mkF mt 9 #[.val (.ref a)] [])
    refine Win.st ?_ (fun tq kq => XS.lconst X49.here hx rfl (hb hby d_prog_84_method_13_9) kq)
    show Win p e below _ T49 (mkF mt 10 #[.val (.ref a)] [(.long (0 : Int64))])
    refine Win.st ?_ (fun tq kq => XS.goto X49.here hx rfl (pc0 := 10) (pc' := 22) rfl (hb hby d_prog_84_method_13_10) (by decide) (by decide) kq)
    show Win p e below _ T49 (mkF mt 22 #[.val (.ref a)] [(.long (0 : Int64))])
    exact Win.ret X49 hx hlk e49 hrt rfl (Or.inr (Or.inl ⟨rfl, rfl, _, rfl⟩)) (hb hby d_prog_84_method_13_22) (by decide) (by decide) ⟨by simp only [own_avg, hc, if_true, if_false], N0, rfl⟩
  · refine Win.st ?_ (fun tq kq => XS.ifYes X49.here hx rfl (pc0 := 6) (pc' := 13) rfl (hb hby d_prog_84_method_13_6) rfl ((if0 _ _).trans (feq hc).2) (by decide) (by decide) kq)
    show Win p e below _ T49 (mkF mt 13 #[.val (.ref a)] [])
    refine Win.st ?_ (fun tq kq => XS.aloadN X49.here hx rfl (hb hby d_prog_84_method_13_13) rfl rfl kq)
    show Win p e below _ T49 (mkF mt 14 #[.val (.ref a)] [(.ref a)])
    obtain ⟨T50, X50, e50, st50⟩ := getF X49 hx hZ hown (host := "") (Or.inl (hw _ (List.mem_of_getElem? (i := 35) rfl))) Via.refl e49 F2 (g := (mkF mt 14 #[.val (.ref a)] [(.ref a)])) rfl rfl (hb hby d_prog_84_method_13_14)
    refine Win.st ?_ st50
    show Win p e below _ T50 (mkF mt 17 #[.val (.ref a)] [(.long nn)])
    refine Win.st ?_ (fun tq kq => XS.aloadN X50.here hx rfl (hb hby d_prog_84_method_13_17) rfl rfl kq)
    show Win p e below _ T50 (mkF mt 18 #[.val (.ref a)] [(.ref a), (.long nn)])
    obtain ⟨T51, X51, e51, st51⟩ := getF X50 hx hZ hown (host := "") (Or.inl (hw _ (List.mem_of_getElem? (i := 33) rfl))) Via.refl e50 F1 (g := (mkF mt 18 #[.val (.ref a)] [(.ref a), (.long nn)])) rfl rfl (hb hby d_prog_84_method_13_18)
    refine Win.st ?_ st51
    show Win p e below _ T51 (mkF mt 21 #[.val (.ref a)] [(.long cm), (.long nn)])
    refine Win.st ?_ (fun tq kq => XS.ldiv X51.here hx rfl (hb hby d_prog_84_method_13_21) rfl (fun q => hc ((lw_eq _ _).mpr q)) kq)
    show Win p e below _ T51 (mkF mt 22 #[.val (.ref a)] [(.long (nn / cm))])
    exact Win.ret X51 hx hlk e51 hrt rfl (Or.inr (Or.inl ⟨rfl, rfl, _, rfl⟩)) (hb hby d_prog_84_method_13_22) (by decide) (by decide) ⟨by simp only [own_avg, hc, if_true, if_false], N0, rfl⟩
theorem d_prog_84_method_9_0 : decode prog_84_method_9_code 0 = .ok (.aload_n 0, 1) := by decide +kernel
theorem d_prog_84_method_9_1 : decode prog_84_method_9_code 1 = .ok (.getfield 20, 3) := by decide +kernel
theorem d_prog_84_method_9_4 : decode prog_84_method_9_code 4 = .ok (.lreturn, 1) := by decide +kernel
theorem ef_gcommitted (mt : MethodId) (a : Addr) : entryFrame mt #[(.ref a)] 1 = mkF mt 0 #[.val (.ref a)] [] := by first | (simp [entryFrame, mkF, argsToLocals, Value.category]; done) | rfl
def Q_gcommitted (Z : State) (a : Addr) (q : Int64) (h0 : Heap) (n0 : Nat) (v : Option Value) (h : Heap) (L : List Loc) : Prop := v = some (.long q) ∧ Fr n0 L ∧ h = h0
set_option maxRecDepth 65536 in
set_option maxHeartbeats 40000000 in
theorem rm_gcommitted (l : Launch) (Z : State) (a0 : Array Value) (hw : ∀ d ∈ tables_1, d.before a0 Z = true) (ws : List Jvm.Cond) (a : Addr) (q : Int64) (h0 : Heap) (n0 : Nat) (Z0 : n0 ≤ h0.size) (F1 : Fld Z h0 a "com/example/interleave/interleave/Tally" "committed" "J" (.long q)) :
    MetFree l (⟨"com/example/interleave/interleave/Tally", "committed", "()J"⟩ : MethodName) (head1 (Jvm.Cond.code (⟨"com/example/interleave/interleave/Tally", "committed", "()J"⟩ : MethodName) prog_84_method_9_code 1 (some .long) :: ws) ({ frames := 0, cells := 0, slots := 0, locals := 0 } : Room)) (fun aa UU => aa = #[(.ref a)] ∧ Z.Warmed39 UU.vm ∧ UU.heap = h0) (fun _ _ _ _ _ => True) (fun _ UU oo UU' => ∃ vv LL, oo = .returned vv ∧ Q_gcommitted Z a q h0 n0 vv UU'.heap LL ∧ FrameEnd UU oo UU' LL ({ frames := 0, cells := 0, slots := 0, locals := 0 } : Room).cells ({ frames := 0, cells := 0, slots := 0, locals := 0 } : Room).slots) := by
  refine MetFree.of_bodySF (plainFor_of_name pn_2) hisR ?_
  intro p e s mt args below meth cd s₁ Bd hml0 hP hK
  obtain ⟨hA, hZ, hh⟩ := hP
  have hx := Bd.exec
  have hby := Bd.bytes
  have hml : cd.maxLocals = 1 := hml0
  have hown : s.vm.findClass "com/example/interleave/interleave/Tally" = some mt.cls := findClass_of_methodNamed Bd.named
  have hnm := (name_of_methodNamed Bd.named Bd.method).1
  have hlk : meth.locks = false := BodyLoose.notSynchronized Bd
  have hrt := Bd.returns
  have X0 : Stand p l e ({ frames := 0, cells := 0, slots := 0, locals := 0 } : Room) s mt args below meth cd s₁ [] 0 0 := Stand.of_body Bd
  have e0 : s₁.heap = h0 := by rw [← hh, Bd.state]; rfl
  have N0 := Fr.nil n0
  show Win p e below (Ends s (Q_gcommitted Z a q h0 n0) ({ frames := 0, cells := 0, slots := 0, locals := 0 } : Room).cells ({ frames := 0, cells := 0, slots := 0, locals := 0 } : Room).slots) s₁ (entryFrame mt args 1)
  rw [hA, ef_gcommitted]
  refine Win.st ?_ (fun tq kq => XS.aloadN X0.here hx rfl (hb hby d_prog_84_method_9_0) rfl rfl kq)
  show Win p e below _ s₁ (mkF mt 1 #[.val (.ref a)] [(.ref a)])
  obtain ⟨T52, X52, e52, st52⟩ := getF X0 hx hZ hown (host := "") (Or.inl (hw _ (List.mem_of_getElem? (i := 33) rfl))) Via.refl e0 F1 (g := (mkF mt 1 #[.val (.ref a)] [(.ref a)])) rfl rfl (hb hby d_prog_84_method_9_1)
  refine Win.st ?_ st52
  show Win p e below _ T52 (mkF mt 4 #[.val (.ref a)] [(.long q)])
  exact Win.ret X52 hx hlk e52 hrt rfl (Or.inr (Or.inl ⟨rfl, rfl, _, rfl⟩)) (hb hby d_prog_84_method_9_4) (by decide) (by decide) ⟨rfl, N0, rfl⟩
theorem d_prog_84_method_14_0 : decode prog_84_method_14_code 0 = .ok (.aload_n 0, 1) := by decide +kernel
theorem d_prog_84_method_14_1 : decode prog_84_method_14_code 1 = .ok (.getfield 26, 3) := by decide +kernel
theorem d_prog_84_method_14_4 : decode prog_84_method_14_code 4 = .ok (.lreturn, 1) := by decide +kernel
theorem ef_glongestNanos (mt : MethodId) (a : Addr) : entryFrame mt #[(.ref a)] 1 = mkF mt 0 #[.val (.ref a)] [] := by first | (simp [entryFrame, mkF, argsToLocals, Value.category]; done) | rfl
def Q_glongestNanos (Z : State) (a : Addr) (q : Int64) (h0 : Heap) (n0 : Nat) (v : Option Value) (h : Heap) (L : List Loc) : Prop := v = some (.long q) ∧ Fr n0 L ∧ h = h0
set_option maxRecDepth 65536 in
set_option maxHeartbeats 40000000 in
theorem rm_glongestNanos (l : Launch) (Z : State) (a0 : Array Value) (hw : ∀ d ∈ tables_1, d.before a0 Z = true) (ws : List Jvm.Cond) (a : Addr) (q : Int64) (h0 : Heap) (n0 : Nat) (Z0 : n0 ≤ h0.size) (F1 : Fld Z h0 a "com/example/interleave/interleave/Tally" "longestNanos" "J" (.long q)) :
    MetFree l (⟨"com/example/interleave/interleave/Tally", "longestNanos", "()J"⟩ : MethodName) (head1 (Jvm.Cond.code (⟨"com/example/interleave/interleave/Tally", "longestNanos", "()J"⟩ : MethodName) prog_84_method_14_code 1 (some .long) :: ws) ({ frames := 0, cells := 0, slots := 0, locals := 0 } : Room)) (fun aa UU => aa = #[(.ref a)] ∧ Z.Warmed39 UU.vm ∧ UU.heap = h0) (fun _ _ _ _ _ => True) (fun _ UU oo UU' => ∃ vv LL, oo = .returned vv ∧ Q_glongestNanos Z a q h0 n0 vv UU'.heap LL ∧ FrameEnd UU oo UU' LL ({ frames := 0, cells := 0, slots := 0, locals := 0 } : Room).cells ({ frames := 0, cells := 0, slots := 0, locals := 0 } : Room).slots) := by
  refine MetFree.of_bodySF (plainFor_of_name pn_2) hisR ?_
  intro p e s mt args below meth cd s₁ Bd hml0 hP hK
  obtain ⟨hA, hZ, hh⟩ := hP
  have hx := Bd.exec
  have hby := Bd.bytes
  have hml : cd.maxLocals = 1 := hml0
  have hown : s.vm.findClass "com/example/interleave/interleave/Tally" = some mt.cls := findClass_of_methodNamed Bd.named
  have hnm := (name_of_methodNamed Bd.named Bd.method).1
  have hlk : meth.locks = false := BodyLoose.notSynchronized Bd
  have hrt := Bd.returns
  have X0 : Stand p l e ({ frames := 0, cells := 0, slots := 0, locals := 0 } : Room) s mt args below meth cd s₁ [] 0 0 := Stand.of_body Bd
  have e0 : s₁.heap = h0 := by rw [← hh, Bd.state]; rfl
  have N0 := Fr.nil n0
  show Win p e below (Ends s (Q_glongestNanos Z a q h0 n0) ({ frames := 0, cells := 0, slots := 0, locals := 0 } : Room).cells ({ frames := 0, cells := 0, slots := 0, locals := 0 } : Room).slots) s₁ (entryFrame mt args 1)
  rw [hA, ef_glongestNanos]
  refine Win.st ?_ (fun tq kq => XS.aloadN X0.here hx rfl (hb hby d_prog_84_method_14_0) rfl rfl kq)
  show Win p e below _ s₁ (mkF mt 1 #[.val (.ref a)] [(.ref a)])
  obtain ⟨T53, X53, e53, st53⟩ := getF X0 hx hZ hown (host := "") (Or.inl (hw _ (List.mem_of_getElem? (i := 37) rfl))) Via.refl e0 F1 (g := (mkF mt 1 #[.val (.ref a)] [(.ref a)])) rfl rfl (hb hby d_prog_84_method_14_1)
  refine Win.st ?_ st53
  show Win p e below _ T53 (mkF mt 4 #[.val (.ref a)] [(.long q)])
  exact Win.ret X53 hx hlk e53 hrt rfl (Or.inr (Or.inl ⟨rfl, rfl, _, rfl⟩)) (hb hby d_prog_84_method_14_4) (by decide) (by decide) ⟨rfl, N0, rfl⟩
theorem d_prog_84_method_8_0 : decode prog_84_method_8_code 0 = .ok (.aload_n 0, 1) := by decide +kernel
theorem d_prog_84_method_8_1 : decode prog_84_method_8_code 1 = .ok (.getfield 16, 3) := by decide +kernel
theorem d_prog_84_method_8_4 : decode prog_84_method_8_code 4 = .ok (.lreturn, 1) := by decide +kernel
theorem ef_gstarted (mt : MethodId) (a : Addr) : entryFrame mt #[(.ref a)] 1 = mkF mt 0 #[.val (.ref a)] [] := by first | (simp [entryFrame, mkF, argsToLocals, Value.category]; done) | rfl
def Q_gstarted (Z : State) (a : Addr) (q : Int64) (h0 : Heap) (n0 : Nat) (v : Option Value) (h : Heap) (L : List Loc) : Prop := v = some (.long q) ∧ Fr n0 L ∧ h = h0
set_option maxRecDepth 65536 in
set_option maxHeartbeats 40000000 in
theorem rm_gstarted (l : Launch) (Z : State) (a0 : Array Value) (hw : ∀ d ∈ tables_1, d.before a0 Z = true) (ws : List Jvm.Cond) (a : Addr) (q : Int64) (h0 : Heap) (n0 : Nat) (Z0 : n0 ≤ h0.size) (F1 : Fld Z h0 a "com/example/interleave/interleave/Tally" "started" "J" (.long q)) :
    MetFree l (⟨"com/example/interleave/interleave/Tally", "started", "()J"⟩ : MethodName) (head1 (Jvm.Cond.code (⟨"com/example/interleave/interleave/Tally", "started", "()J"⟩ : MethodName) prog_84_method_8_code 1 (some .long) :: ws) ({ frames := 0, cells := 0, slots := 0, locals := 0 } : Room)) (fun aa UU => aa = #[(.ref a)] ∧ Z.Warmed39 UU.vm ∧ UU.heap = h0) (fun _ _ _ _ _ => True) (fun _ UU oo UU' => ∃ vv LL, oo = .returned vv ∧ Q_gstarted Z a q h0 n0 vv UU'.heap LL ∧ FrameEnd UU oo UU' LL ({ frames := 0, cells := 0, slots := 0, locals := 0 } : Room).cells ({ frames := 0, cells := 0, slots := 0, locals := 0 } : Room).slots) := by
  refine MetFree.of_bodySF (plainFor_of_name pn_2) hisR ?_
  intro p e s mt args below meth cd s₁ Bd hml0 hP hK
  obtain ⟨hA, hZ, hh⟩ := hP
  have hx := Bd.exec
  have hby := Bd.bytes
  have hml : cd.maxLocals = 1 := hml0
  have hown : s.vm.findClass "com/example/interleave/interleave/Tally" = some mt.cls := findClass_of_methodNamed Bd.named
  have hnm := (name_of_methodNamed Bd.named Bd.method).1
  have hlk : meth.locks = false := BodyLoose.notSynchronized Bd
  have hrt := Bd.returns
  have X0 : Stand p l e ({ frames := 0, cells := 0, slots := 0, locals := 0 } : Room) s mt args below meth cd s₁ [] 0 0 := Stand.of_body Bd
  have e0 : s₁.heap = h0 := by rw [← hh, Bd.state]; rfl
  have N0 := Fr.nil n0
  show Win p e below (Ends s (Q_gstarted Z a q h0 n0) ({ frames := 0, cells := 0, slots := 0, locals := 0 } : Room).cells ({ frames := 0, cells := 0, slots := 0, locals := 0 } : Room).slots) s₁ (entryFrame mt args 1)
  rw [hA, ef_gstarted]
  refine Win.st ?_ (fun tq kq => XS.aloadN X0.here hx rfl (hb hby d_prog_84_method_8_0) rfl rfl kq)
  show Win p e below _ s₁ (mkF mt 1 #[.val (.ref a)] [(.ref a)])
  obtain ⟨T54, X54, e54, st54⟩ := getF X0 hx hZ hown (host := "") (Or.inl (hw _ (List.mem_of_getElem? (i := 63) rfl))) Via.refl e0 F1 (g := (mkF mt 1 #[.val (.ref a)] [(.ref a)])) rfl rfl (hb hby d_prog_84_method_8_1)
  refine Win.st ?_ st54
  show Win p e below _ T54 (mkF mt 4 #[.val (.ref a)] [(.long q)])
  exact Win.ret X54 hx hlk e54 hrt rfl (Or.inr (Or.inl ⟨rfl, rfl, _, rfl⟩)) (hb hby d_prog_84_method_8_4) (by decide) (by decide) ⟨rfl, N0, rfl⟩
theorem d_prog_84_method_10_0 : decode prog_84_method_10_code 0 = .ok (.aload_n 0, 1) := by decide +kernel
theorem d_prog_84_method_10_1 : decode prog_84_method_10_code 1 = .ok (.getfield 54, 3) := by decide +kernel
theorem d_prog_84_method_10_4 : decode prog_84_method_10_code 4 = .ok (.lreturn, 1) := by decide +kernel
theorem ef_gfailed (mt : MethodId) (a : Addr) : entryFrame mt #[(.ref a)] 1 = mkF mt 0 #[.val (.ref a)] [] := by first | (simp [entryFrame, mkF, argsToLocals, Value.category]; done) | rfl
def Q_gfailed (Z : State) (a : Addr) (q : Int64) (h0 : Heap) (n0 : Nat) (v : Option Value) (h : Heap) (L : List Loc) : Prop := v = some (.long q) ∧ Fr n0 L ∧ h = h0
set_option maxRecDepth 65536 in
set_option maxHeartbeats 40000000 in
theorem rm_gfailed (l : Launch) (Z : State) (a0 : Array Value) (hw : ∀ d ∈ tables_1, d.before a0 Z = true) (ws : List Jvm.Cond) (a : Addr) (q : Int64) (h0 : Heap) (n0 : Nat) (Z0 : n0 ≤ h0.size) (F1 : Fld Z h0 a "com/example/interleave/interleave/Tally" "failed" "J" (.long q)) :
    MetFree l (⟨"com/example/interleave/interleave/Tally", "failed", "()J"⟩ : MethodName) (head1 (Jvm.Cond.code (⟨"com/example/interleave/interleave/Tally", "failed", "()J"⟩ : MethodName) prog_84_method_10_code 1 (some .long) :: ws) ({ frames := 0, cells := 0, slots := 0, locals := 0 } : Room)) (fun aa UU => aa = #[(.ref a)] ∧ Z.Warmed39 UU.vm ∧ UU.heap = h0) (fun _ _ _ _ _ => True) (fun _ UU oo UU' => ∃ vv LL, oo = .returned vv ∧ Q_gfailed Z a q h0 n0 vv UU'.heap LL ∧ FrameEnd UU oo UU' LL ({ frames := 0, cells := 0, slots := 0, locals := 0 } : Room).cells ({ frames := 0, cells := 0, slots := 0, locals := 0 } : Room).slots) := by
  refine MetFree.of_bodySF (plainFor_of_name pn_2) hisR ?_
  intro p e s mt args below meth cd s₁ Bd hml0 hP hK
  obtain ⟨hA, hZ, hh⟩ := hP
  have hx := Bd.exec
  have hby := Bd.bytes
  have hml : cd.maxLocals = 1 := hml0
  have hown : s.vm.findClass "com/example/interleave/interleave/Tally" = some mt.cls := findClass_of_methodNamed Bd.named
  have hnm := (name_of_methodNamed Bd.named Bd.method).1
  have hlk : meth.locks = false := BodyLoose.notSynchronized Bd
  have hrt := Bd.returns
  have X0 : Stand p l e ({ frames := 0, cells := 0, slots := 0, locals := 0 } : Room) s mt args below meth cd s₁ [] 0 0 := Stand.of_body Bd
  have e0 : s₁.heap = h0 := by rw [← hh, Bd.state]; rfl
  have N0 := Fr.nil n0
  show Win p e below (Ends s (Q_gfailed Z a q h0 n0) ({ frames := 0, cells := 0, slots := 0, locals := 0 } : Room).cells ({ frames := 0, cells := 0, slots := 0, locals := 0 } : Room).slots) s₁ (entryFrame mt args 1)
  rw [hA, ef_gfailed]
  refine Win.st ?_ (fun tq kq => XS.aloadN X0.here hx rfl (hb hby d_prog_84_method_10_0) rfl rfl kq)
  show Win p e below _ s₁ (mkF mt 1 #[.val (.ref a)] [(.ref a)])
  obtain ⟨T55, X55, e55, st55⟩ := getF X0 hx hZ hown (host := "") (Or.inl (hw _ (List.mem_of_getElem? (i := 70) rfl))) Via.refl e0 F1 (g := (mkF mt 1 #[.val (.ref a)] [(.ref a)])) rfl rfl (hb hby d_prog_84_method_10_1)
  refine Win.st ?_ st55
  show Win p e below _ T55 (mkF mt 4 #[.val (.ref a)] [(.long q)])
  exact Win.ret X55 hx hlk e55 hrt rfl (Or.inr (Or.inl ⟨rfl, rfl, _, rfl⟩)) (hb hby d_prog_84_method_10_4) (by decide) (by decide) ⟨rfl, N0, rfl⟩
theorem d_prog_84_method_11_0 : decode prog_84_method_11_code 0 = .ok (.aload_n 0, 1) := by decide +kernel
theorem d_prog_84_method_11_1 : decode prog_84_method_11_code 1 = .ok (.getfield 51, 3) := by decide +kernel
theorem d_prog_84_method_11_4 : decode prog_84_method_11_code 4 = .ok (.lreturn, 1) := by decide +kernel
theorem ef_gretried (mt : MethodId) (a : Addr) : entryFrame mt #[(.ref a)] 1 = mkF mt 0 #[.val (.ref a)] [] := by first | (simp [entryFrame, mkF, argsToLocals, Value.category]; done) | rfl
def Q_gretried (Z : State) (a : Addr) (q : Int64) (h0 : Heap) (n0 : Nat) (v : Option Value) (h : Heap) (L : List Loc) : Prop := v = some (.long q) ∧ Fr n0 L ∧ h = h0
set_option maxRecDepth 65536 in
set_option maxHeartbeats 40000000 in
theorem rm_gretried (l : Launch) (Z : State) (a0 : Array Value) (hw : ∀ d ∈ tables_1, d.before a0 Z = true) (ws : List Jvm.Cond) (a : Addr) (q : Int64) (h0 : Heap) (n0 : Nat) (Z0 : n0 ≤ h0.size) (F1 : Fld Z h0 a "com/example/interleave/interleave/Tally" "retried" "J" (.long q)) :
    MetFree l (⟨"com/example/interleave/interleave/Tally", "retried", "()J"⟩ : MethodName) (head1 (Jvm.Cond.code (⟨"com/example/interleave/interleave/Tally", "retried", "()J"⟩ : MethodName) prog_84_method_11_code 1 (some .long) :: ws) ({ frames := 0, cells := 0, slots := 0, locals := 0 } : Room)) (fun aa UU => aa = #[(.ref a)] ∧ Z.Warmed39 UU.vm ∧ UU.heap = h0) (fun _ _ _ _ _ => True) (fun _ UU oo UU' => ∃ vv LL, oo = .returned vv ∧ Q_gretried Z a q h0 n0 vv UU'.heap LL ∧ FrameEnd UU oo UU' LL ({ frames := 0, cells := 0, slots := 0, locals := 0 } : Room).cells ({ frames := 0, cells := 0, slots := 0, locals := 0 } : Room).slots) := by
  refine MetFree.of_bodySF (plainFor_of_name pn_2) hisR ?_
  intro p e s mt args below meth cd s₁ Bd hml0 hP hK
  obtain ⟨hA, hZ, hh⟩ := hP
  have hx := Bd.exec
  have hby := Bd.bytes
  have hml : cd.maxLocals = 1 := hml0
  have hown : s.vm.findClass "com/example/interleave/interleave/Tally" = some mt.cls := findClass_of_methodNamed Bd.named
  have hnm := (name_of_methodNamed Bd.named Bd.method).1
  have hlk : meth.locks = false := BodyLoose.notSynchronized Bd
  have hrt := Bd.returns
  have X0 : Stand p l e ({ frames := 0, cells := 0, slots := 0, locals := 0 } : Room) s mt args below meth cd s₁ [] 0 0 := Stand.of_body Bd
  have e0 : s₁.heap = h0 := by rw [← hh, Bd.state]; rfl
  have N0 := Fr.nil n0
  show Win p e below (Ends s (Q_gretried Z a q h0 n0) ({ frames := 0, cells := 0, slots := 0, locals := 0 } : Room).cells ({ frames := 0, cells := 0, slots := 0, locals := 0 } : Room).slots) s₁ (entryFrame mt args 1)
  rw [hA, ef_gretried]
  refine Win.st ?_ (fun tq kq => XS.aloadN X0.here hx rfl (hb hby d_prog_84_method_11_0) rfl rfl kq)
  show Win p e below _ s₁ (mkF mt 1 #[.val (.ref a)] [(.ref a)])
  obtain ⟨T56, X56, e56, st56⟩ := getF X0 hx hZ hown (host := "") (Or.inl (hw _ (List.mem_of_getElem? (i := 77) rfl))) Via.refl e0 F1 (g := (mkF mt 1 #[.val (.ref a)] [(.ref a)])) rfl rfl (hb hby d_prog_84_method_11_1)
  refine Win.st ?_ st56
  show Win p e below _ T56 (mkF mt 4 #[.val (.ref a)] [(.long q)])
  exact Win.ret X56 hx hlk e56 hrt rfl (Or.inr (Or.inl ⟨rfl, rfl, _, rfl⟩)) (hb hby d_prog_84_method_11_4) (by decide) (by decide) ⟨rfl, N0, rfl⟩
theorem pd_2 : parseMethodDescriptor "()J" = some ⟨[], some .long⟩ := by decide +kernel
theorem pd_3 : parseMethodDescriptor "(J)V" = some ⟨[.long], none⟩ := by decide +kernel
theorem pn_3 : plainName "com/example/interleave/interleave/TallyCommitPinLaw" = true := by first | (simp [plainName, overriddenIn]; done) | decide +kernel
theorem ef_law (mt : MethodId) (a0_ : Int64) (b0_ : Int64) (c0_ : Int64) (n_ : Int32) : entryFrame mt #[(.long a0_), (.long b0_), (.long c0_), (.int n_)] maxLocals = mkF mt 0 #[.val (.long a0_), .second, .val (.long b0_), .second, .val (.long c0_), .second, .val (.int n_), .unset, .unset, .unset, .unset, .unset, .unset, .unset, .unset, .unset, .unset, .unset, .unset, .unset, .unset] [] := by first | (simp [entryFrame, mkF, argsToLocals, Value.category, maxLocals]; done) | rfl
def Q_law (Z : State) (a0_ : Int64) (b0_ : Int64) (c0_ : Int64) (n_ : Int32) (h0 : Heap) (n0 : Nat) (v : Option Value) (h : Heap) (L : List Loc) : Prop := v = some (.int 1) ∧ Fr n0 L
set_option maxRecDepth 65536 in
set_option maxHeartbeats 40000000 in
theorem rm_law (l : Launch) (Z : State) (a0 : Array Value) (hw : ∀ d ∈ tables_1, d.before a0 Z = true) (ws : List Jvm.Cond) (a0_ : Int64) (b0_ : Int64) (c0_ : Int64) (n_ : Int32) (h0 : Heap) (n0 : Nat) (Z0 : n0 ≤ h0.size) :
    MetFree l x (head1 (Jvm.Cond.code x code maxLocals ret :: ws) room_1) (fun aa UU => aa = #[(.long a0_), (.long b0_), (.long c0_), (.int n_)] ∧ Z.Warmed39 UU.vm ∧ UU.heap = h0) (fun _ _ _ _ _ => True) (fun _ UU oo UU' => ∃ vv LL, oo = .returned vv ∧ Q_law Z a0_ b0_ c0_ n_ h0 n0 vv UU'.heap LL ∧ FrameEnd UU oo UU' LL 2 15) := by
  refine MetFree.of_bodySF (plainFor_of_name pn_3) hisR ?_
  intro p e s mt args below meth cd s₁ Bd hml0 hP hK
  obtain ⟨hA, hZ, hh⟩ := hP
  have hx := Bd.exec
  have hby := Bd.bytes
  have hml : cd.maxLocals = 21 := hml0
  have hown : s.vm.findClass "com/example/interleave/interleave/TallyCommitPinLaw" = some mt.cls := findClass_of_methodNamed Bd.named
  have hnm := (name_of_methodNamed Bd.named Bd.method).1
  have hlk : meth.locks = false := BodyLoose.notSynchronized Bd
  have hrt := Bd.returns
  have X0 : Stand p l e room_1 s mt args below meth cd s₁ [] 0 0 := Stand.of_body Bd
  have e0 : s₁.heap = h0 := by rw [← hh, Bd.state]; rfl
  have N0 := Fr.nil n0
  show Win p e below (Ends s (Q_law Z a0_ b0_ c0_ n_ h0 n0) 2 15) s₁ (entryFrame mt args maxLocals)
  rw [hA, ef_law]
  refine Win.st ?_ (fun tq kq => XS.lloadN X0.here hx rfl (hb hby at_0) rfl kq)
  show Win p e below _ s₁ (mkF mt 1 #[.val (.long a0_), .second, .val (.long b0_), .second, .val (.long c0_), .second, .val (.int n_), .unset, .unset, .unset, .unset, .unset, .unset, .unset, .unset, .unset, .unset, .unset, .unset, .unset, .unset] [(.long a0_)])
  refine Win.st ?_ (X0.ldc2Long hx hown (mvT hZ (hw _ (List.mem_of_getElem? (i := 0) rfl))) (g := (mkF mt 1 #[.val (.long a0_), .second, .val (.long b0_), .second, .val (.long c0_), .second, .val (.int n_), .unset, .unset, .unset, .unset, .unset, .unset, .unset, .unset, .unset, .unset, .unset, .unset, .unset, .unset] [(.long a0_)])) rfl (hb hby at_1))
  show Win p e below _ s₁ (mkF mt 4 #[.val (.long a0_), .second, .val (.long b0_), .second, .val (.long c0_), .second, .val (.int n_), .unset, .unset, .unset, .unset, .unset, .unset, .unset, .unset, .unset, .unset, .unset, .unset, .unset, .unset] [(.long (2305843009213693951 : Int64)), (.long a0_)])
  refine Win.st ?_ (fun tq kq => XS.land X0.here hx rfl (hb hby at_4) rfl kq)
  show Win p e below _ s₁ (mkF mt 5 #[.val (.long a0_), .second, .val (.long b0_), .second, .val (.long c0_), .second, .val (.int n_), .unset, .unset, .unset, .unset, .unset, .unset, .unset, .unset, .unset, .unset, .unset, .unset, .unset, .unset] [(.long (a0_ &&& (2305843009213693951 : Int64)))])
  obtain ⟨xx, hqxx⟩ : ∃ z, z = (a0_ &&& (2305843009213693951 : Int64)) := ⟨_, rfl⟩
  have hpxx : 0 ≤ xx.toInt := by have q := c_maskL a0_ 2305843009213693951 61 (by decide) (by decide); rw [← hqxx] at q; omega
  rw [← hqxx]
  show Win p e below _ s₁ (mkF mt 5 #[.val (.long a0_), .second, .val (.long b0_), .second, .val (.long c0_), .second, .val (.int n_), .unset, .unset, .unset, .unset, .unset, .unset, .unset, .unset, .unset, .unset, .unset, .unset, .unset, .unset] [(.long xx)])
  refine Win.st ?_ (fun tq kq => XS.lstore X0.here hx rfl (hb hby at_5) rfl (l' := #[.val (.long a0_), .second, .val (.long b0_), .second, .val (.long c0_), .second, .val (.int n_), .val (.long xx), .second, .unset, .unset, .unset, .unset, .unset, .unset, .unset, .unset, .unset, .unset, .unset, .unset]) rfl kq)
  show Win p e below _ s₁ (mkF mt 7 #[.val (.long a0_), .second, .val (.long b0_), .second, .val (.long c0_), .second, .val (.int n_), .val (.long xx), .second, .unset, .unset, .unset, .unset, .unset, .unset, .unset, .unset, .unset, .unset, .unset, .unset] [])
  refine Win.st ?_ (fun tq kq => XS.lloadN X0.here hx rfl (hb hby at_7) rfl kq)
  show Win p e below _ s₁ (mkF mt 8 #[.val (.long a0_), .second, .val (.long b0_), .second, .val (.long c0_), .second, .val (.int n_), .val (.long xx), .second, .unset, .unset, .unset, .unset, .unset, .unset, .unset, .unset, .unset, .unset, .unset, .unset] [(.long b0_)])
  refine Win.st ?_ (X0.ldc2Long hx hown (mvT hZ (hw _ (List.mem_of_getElem? (i := 0) rfl))) (g := (mkF mt 8 #[.val (.long a0_), .second, .val (.long b0_), .second, .val (.long c0_), .second, .val (.int n_), .val (.long xx), .second, .unset, .unset, .unset, .unset, .unset, .unset, .unset, .unset, .unset, .unset, .unset, .unset] [(.long b0_)])) rfl (hb hby at_8))
  show Win p e below _ s₁ (mkF mt 11 #[.val (.long a0_), .second, .val (.long b0_), .second, .val (.long c0_), .second, .val (.int n_), .val (.long xx), .second, .unset, .unset, .unset, .unset, .unset, .unset, .unset, .unset, .unset, .unset, .unset, .unset] [(.long (2305843009213693951 : Int64)), (.long b0_)])
  refine Win.st ?_ (fun tq kq => XS.land X0.here hx rfl (hb hby at_11) rfl kq)
  show Win p e below _ s₁ (mkF mt 12 #[.val (.long a0_), .second, .val (.long b0_), .second, .val (.long c0_), .second, .val (.int n_), .val (.long xx), .second, .unset, .unset, .unset, .unset, .unset, .unset, .unset, .unset, .unset, .unset, .unset, .unset] [(.long (b0_ &&& (2305843009213693951 : Int64)))])
  obtain ⟨yy, hqyy⟩ : ∃ z, z = (b0_ &&& (2305843009213693951 : Int64)) := ⟨_, rfl⟩
  have hpyy : 0 ≤ yy.toInt := by have q := c_maskL b0_ 2305843009213693951 61 (by decide) (by decide); rw [← hqyy] at q; omega
  rw [← hqyy]
  show Win p e below _ s₁ (mkF mt 12 #[.val (.long a0_), .second, .val (.long b0_), .second, .val (.long c0_), .second, .val (.int n_), .val (.long xx), .second, .unset, .unset, .unset, .unset, .unset, .unset, .unset, .unset, .unset, .unset, .unset, .unset] [(.long yy)])
  refine Win.st ?_ (fun tq kq => XS.lstore X0.here hx rfl (hb hby at_12) rfl (l' := #[.val (.long a0_), .second, .val (.long b0_), .second, .val (.long c0_), .second, .val (.int n_), .val (.long xx), .second, .val (.long yy), .second, .unset, .unset, .unset, .unset, .unset, .unset, .unset, .unset, .unset, .unset]) rfl kq)
  show Win p e below _ s₁ (mkF mt 14 #[.val (.long a0_), .second, .val (.long b0_), .second, .val (.long c0_), .second, .val (.int n_), .val (.long xx), .second, .val (.long yy), .second, .unset, .unset, .unset, .unset, .unset, .unset, .unset, .unset, .unset, .unset] [])
  refine Win.st ?_ (fun tq kq => XS.lload X0.here hx rfl (hb hby at_14) rfl kq)
  show Win p e below _ s₁ (mkF mt 16 #[.val (.long a0_), .second, .val (.long b0_), .second, .val (.long c0_), .second, .val (.int n_), .val (.long xx), .second, .val (.long yy), .second, .unset, .unset, .unset, .unset, .unset, .unset, .unset, .unset, .unset, .unset] [(.long c0_)])
  refine Win.st ?_ (X0.ldc2Long hx hown (mvT hZ (hw _ (List.mem_of_getElem? (i := 0) rfl))) (g := (mkF mt 16 #[.val (.long a0_), .second, .val (.long b0_), .second, .val (.long c0_), .second, .val (.int n_), .val (.long xx), .second, .val (.long yy), .second, .unset, .unset, .unset, .unset, .unset, .unset, .unset, .unset, .unset, .unset] [(.long c0_)])) rfl (hb hby at_16))
  show Win p e below _ s₁ (mkF mt 19 #[.val (.long a0_), .second, .val (.long b0_), .second, .val (.long c0_), .second, .val (.int n_), .val (.long xx), .second, .val (.long yy), .second, .unset, .unset, .unset, .unset, .unset, .unset, .unset, .unset, .unset, .unset] [(.long (2305843009213693951 : Int64)), (.long c0_)])
  refine Win.st ?_ (fun tq kq => XS.land X0.here hx rfl (hb hby at_19) rfl kq)
  show Win p e below _ s₁ (mkF mt 20 #[.val (.long a0_), .second, .val (.long b0_), .second, .val (.long c0_), .second, .val (.int n_), .val (.long xx), .second, .val (.long yy), .second, .unset, .unset, .unset, .unset, .unset, .unset, .unset, .unset, .unset, .unset] [(.long (c0_ &&& (2305843009213693951 : Int64)))])
  obtain ⟨zz, hqzz⟩ : ∃ z, z = (c0_ &&& (2305843009213693951 : Int64)) := ⟨_, rfl⟩
  have hpzz : 0 ≤ zz.toInt := by have q := c_maskL c0_ 2305843009213693951 61 (by decide) (by decide); rw [← hqzz] at q; omega
  rw [← hqzz]
  show Win p e below _ s₁ (mkF mt 20 #[.val (.long a0_), .second, .val (.long b0_), .second, .val (.long c0_), .second, .val (.int n_), .val (.long xx), .second, .val (.long yy), .second, .unset, .unset, .unset, .unset, .unset, .unset, .unset, .unset, .unset, .unset] [(.long zz)])
  refine Win.st ?_ (fun tq kq => XS.lstore X0.here hx rfl (hb hby at_20) rfl (l' := #[.val (.long a0_), .second, .val (.long b0_), .second, .val (.long c0_), .second, .val (.int n_), .val (.long xx), .second, .val (.long yy), .second, .val (.long zz), .second, .unset, .unset, .unset, .unset, .unset, .unset, .unset, .unset]) rfl kq)
  show Win p e below _ s₁ (mkF mt 22 #[.val (.long a0_), .second, .val (.long b0_), .second, .val (.long c0_), .second, .val (.int n_), .val (.long xx), .second, .val (.long yy), .second, .val (.long zz), .second, .unset, .unset, .unset, .unset, .unset, .unset, .unset, .unset] [])
  refine Win.st ?_ (fun tq kq => XS.iload X0.here hx rfl (hb hby at_22) rfl kq)
  show Win p e below _ s₁ (mkF mt 24 #[.val (.long a0_), .second, .val (.long b0_), .second, .val (.long c0_), .second, .val (.int n_), .val (.long xx), .second, .val (.long yy), .second, .val (.long zz), .second, .unset, .unset, .unset, .unset, .unset, .unset, .unset, .unset] [(.int n_)])
  refine Win.st ?_ (fun tq kq => XS.iconst X0.here hx rfl (hb hby at_24) kq)
  show Win p e below _ s₁ (mkF mt 25 #[.val (.long a0_), .second, .val (.long b0_), .second, .val (.long c0_), .second, .val (.int n_), .val (.long xx), .second, .val (.long yy), .second, .val (.long zz), .second, .unset, .unset, .unset, .unset, .unset, .unset, .unset, .unset] [(.int (3 : Int32)), (.int n_)])
  refine Win.st ?_ (fun tq kq => XS.iand X0.here hx rfl (hb hby at_25) rfl kq)
  show Win p e below _ s₁ (mkF mt 26 #[.val (.long a0_), .second, .val (.long b0_), .second, .val (.long c0_), .second, .val (.int n_), .val (.long xx), .second, .val (.long yy), .second, .val (.long zz), .second, .unset, .unset, .unset, .unset, .unset, .unset, .unset, .unset] [(.int (n_ &&& (3 : Int32)))])
  obtain ⟨kk, hkk⟩ : ∃ z, z = (n_ &&& (3 : Int32)) := ⟨_, rfl⟩
  have hk : kk = 0 ∨ kk = 1 ∨ kk = 2 ∨ kk = 3 := by rw [hkk]; exact own_and3 _
  rw [← hkk]
  show Win p e below _ s₁ (mkF mt 26 #[.val (.long a0_), .second, .val (.long b0_), .second, .val (.long c0_), .second, .val (.int n_), .val (.long xx), .second, .val (.long yy), .second, .val (.long zz), .second, .unset, .unset, .unset, .unset, .unset, .unset, .unset, .unset] [(.int kk)])
  refine Win.st ?_ (fun tq kq => XS.istore X0.here hx rfl (hb hby at_26) rfl (l' := #[.val (.long a0_), .second, .val (.long b0_), .second, .val (.long c0_), .second, .val (.int n_), .val (.long xx), .second, .val (.long yy), .second, .val (.long zz), .second, .val (.int kk), .unset, .unset, .unset, .unset, .unset, .unset, .unset]) rfl kq)
  show Win p e below _ s₁ (mkF mt 28 #[.val (.long a0_), .second, .val (.long b0_), .second, .val (.long c0_), .second, .val (.int n_), .val (.long xx), .second, .val (.long yy), .second, .val (.long zz), .second, .val (.int kk), .unset, .unset, .unset, .unset, .unset, .unset, .unset] [])
  obtain ⟨T57, h57, X57, e57, E57, A57, D57, -, st57⟩ := newO X0 hx hZ hown (hw _ (List.mem_of_getElem? (i := 1) rfl)) (hw _ (List.mem_of_getElem? (i := 2) rfl)) (hw _ (List.mem_of_getElem? (i := 3) rfl)) e0 (g := (mkF mt 28 #[.val (.long a0_), .second, .val (.long b0_), .second, .val (.long c0_), .second, .val (.int n_), .val (.long xx), .second, .val (.long yy), .second, .val (.long zz), .second, .val (.int kk), .unset, .unset, .unset, .unset, .unset, .unset, .unset] [])) rfl (hb hby at_28) (by decide) (by decide)
  obtain ⟨b57, gq57⟩ : ∃ z, z = h0.size := ⟨_, rfl⟩
  rw [← gq57] at A57 D57 st57
  have g58 : n0 ≤ b57 := own_newle Z0 gq57
  have ke57 := own_kext E57
  replace X57 : Stand p l e _ s mt args below meth cd T57 _ 1 7 := X57
  have Z60 : n0 ≤ h57.size := Nat.le_trans Z0 ke57.1
  have fn57_failures : Fld Z h57 b57 "com/example/interleave/interleave/Tally" "failures" "Ljava/util/Map;" .null := D57 (Or.inr (hw _ (List.mem_of_getElem? (i := 27) rfl))) (ty := (.object "java/util/Map")) (by decide)
  have fn57_committed : Fld Z h57 b57 "com/example/interleave/interleave/Tally" "committed" "J" (.long (0 : Int64)) := D57 (Or.inl (hw _ (List.mem_of_getElem? (i := 34) rfl))) (ty := .long) (by decide)
  have fn57_committedNanos : Fld Z h57 b57 "com/example/interleave/interleave/Tally" "committedNanos" "J" (.long (0 : Int64)) := D57 (Or.inl (hw _ (List.mem_of_getElem? (i := 36) rfl))) (ty := .long) (by decide)
  have fn57_longestNanos : Fld Z h57 b57 "com/example/interleave/interleave/Tally" "longestNanos" "J" (.long (0 : Int64)) := D57 (Or.inl (hw _ (List.mem_of_getElem? (i := 38) rfl))) (ty := .long) (by decide)
  have fn57_started : Fld Z h57 b57 "com/example/interleave/interleave/Tally" "started" "J" (.long (0 : Int64)) := D57 (Or.inl (hw _ (List.mem_of_getElem? (i := 64) rfl))) (ty := .long) (by decide)
  have fn57_failed : Fld Z h57 b57 "com/example/interleave/interleave/Tally" "failed" "J" (.long (0 : Int64)) := D57 (Or.inl (hw _ (List.mem_of_getElem? (i := 71) rfl))) (ty := .long) (by decide)
  have fn57_retried : Fld Z h57 b57 "com/example/interleave/interleave/Tally" "retried" "J" (.long (0 : Int64)) := D57 (Or.inl (hw _ (List.mem_of_getElem? (i := 78) rfl))) (ty := .long) (by decide)
  refine Win.st ?_ st57
  show Win p e below _ T57 (mkF mt 31 #[.val (.long a0_), .second, .val (.long b0_), .second, .val (.long c0_), .second, .val (.int n_), .val (.long xx), .second, .val (.long yy), .second, .val (.long zz), .second, .val (.int kk), .unset, .unset, .unset, .unset, .unset, .unset, .unset] [(.ref b57)])
  refine Win.st ?_ (fun tq kq => XS.dup X57.here hx rfl (hb hby at_31) rfl rfl kq)
  show Win p e below _ T57 (mkF mt 32 #[.val (.long a0_), .second, .val (.long b0_), .second, .val (.long c0_), .second, .val (.int n_), .val (.long xx), .second, .val (.long yy), .second, .val (.long zz), .second, .val (.int kk), .unset, .unset, .unset, .unset, .unset, .unset, .unset] [(.ref b57), (.ref b57)])
  obtain ⟨v61, _, ⟨T61, L61, k61, n61⟩, -, X61, ⟨Lc61, hQ61, l61, y61, z61⟩, st61⟩ := X57.specialBack hx (y := (⟨"com/example/interleave/interleave/Tally", "<init>", "()V"⟩ : MethodName)) rfl hown (mvT hZ (hw _ (List.mem_of_getElem? (i := 4) rfl))) (mvT hZ (hw _ (List.mem_of_getElem? (i := 5) rfl))) (mvT hZ (hw _ (List.mem_of_getElem? (i := 6) rfl))) (by decide) (backOf (W := 1) (rm_tinit l Z a0 hw [] b57 (0 : Int64) (0 : Int64) (0 : Int64) (0 : Int64) (0 : Int64) (0 : Int64) h57 n0 Z60 A57 fn57_started fn57_committed fn57_committedNanos fn57_longestNanos fn57_retried fn57_failed g58 fn57_failures) hZ (hw _ (List.mem_of_getElem? (i := 6) rfl)) (hw _ (List.mem_of_getElem? (i := 3) rfl)) (by decide) (by decide)) (g := (mkF mt 32 #[.val (.long a0_), .second, .val (.long b0_), .second, .val (.long c0_), .second, .val (.int n_), .val (.long xx), .second, .val (.long yy), .second, .val (.long zz), .second, .val (.int kk), .unset, .unset, .unset, .unset, .unset, .unset, .unset] [(.ref b57), (.ref b57)])) rfl (by rw [hml]; rfl) (Steps.refl _) (a := b57) (argsL := []) (rest := [(.ref b57)]) (lenOf pd_0 rfl) rfl (by show 2 * 0 + _ ≤ _; exact Nat.le_of_eq rfl) (hb hby at_32) (fun _ _ => ⟨rfl, e57, (by decide : 1 + 1 ≤ _), (by decide : 7 + 8 ≤ _)⟩)
  dsimp only [Pt.U, Pt.locs, Pt.cells, Pt.slots] at X61 l61 y61 z61 st61 hQ61
  subst y61 z61
  replace X61 : Stand p l e _ s mt args below meth cd T61 L61 2 15 := X61
  obtain ⟨h61, e61⟩ : ∃ z, T61.heap = z := ⟨_, rfl⟩
  rw [e61] at hQ61
  obtain ⟨rfl, Nq61, K61, t61_st, t61_cm, t61_nn, t61_lo, t61_re, t61_fa⟩ := hQ61
  have N61 : Fr n0 L61 := by rw [l61]; exact Fr.app N0 Nq61
  have f62_74 := A57.keep K61
  have Z63 : n0 ≤ h61.size := Nat.le_trans Z60 K61.1
  refine Win.tr ?_ st61
  show Win p e below _ T61 (mkF mt 35 #[.val (.long a0_), .second, .val (.long b0_), .second, .val (.long c0_), .second, .val (.int n_), .val (.long xx), .second, .val (.long yy), .second, .val (.long zz), .second, .val (.int kk), .unset, .unset, .unset, .unset, .unset, .unset, .unset] [(.ref b57)])
  refine Win.st ?_ (fun tq kq => XS.astore X61.here hx rfl (hb hby at_35) rfl rfl (l' := #[.val (.long a0_), .second, .val (.long b0_), .second, .val (.long c0_), .second, .val (.int n_), .val (.long xx), .second, .val (.long yy), .second, .val (.long zz), .second, .val (.int kk), .val (.ref b57), .unset, .unset, .unset, .unset, .unset, .unset]) rfl kq)
  show Win p e below _ T61 (mkF mt 37 #[.val (.long a0_), .second, .val (.long b0_), .second, .val (.long c0_), .second, .val (.int n_), .val (.long xx), .second, .val (.long yy), .second, .val (.long zz), .second, .val (.int kk), .val (.ref b57), .unset, .unset, .unset, .unset, .unset, .unset] [])
  rcases hk with rfl | rfl | rfl | rfl
  · show Win p e below _ T61 (mkF mt 37 #[.val (.long a0_), .second, .val (.long b0_), .second, .val (.long c0_), .second, .val (.int n_), .val (.long xx), .second, .val (.long yy), .second, .val (.long zz), .second, .val (.int (0 : Int32)), .val (.ref b57), .unset, .unset, .unset, .unset, .unset, .unset] [])
    refine Win.st ?_ (fun tq kq => XS.iload X61.here hx rfl (hb hby at_37) rfl kq)
    show Win p e below _ T61 (mkF mt 39 #[.val (.long a0_), .second, .val (.long b0_), .second, .val (.long c0_), .second, .val (.int n_), .val (.long xx), .second, .val (.long yy), .second, .val (.long zz), .second, .val (.int (0 : Int32)), .val (.ref b57), .unset, .unset, .unset, .unset, .unset, .unset] [(.int (0 : Int32))])
    refine Win.st ?_ (fun tq kq => XS.iconst X61.here hx rfl (hb hby at_39) kq)
    show Win p e below _ T61 (mkF mt 40 #[.val (.long a0_), .second, .val (.long b0_), .second, .val (.long c0_), .second, .val (.int n_), .val (.long xx), .second, .val (.long yy), .second, .val (.long zz), .second, .val (.int (0 : Int32)), .val (.ref b57), .unset, .unset, .unset, .unset, .unset, .unset] [(.int (1 : Int32)), (.int (0 : Int32))])
    refine Win.st ?_ (fun tq kq => XS.icmpYes X61.here hx rfl (pc0 := 40) (pc' := 50) rfl (hb hby at_40) rfl (tlt (by decide : (0 : Int32) < (1 : Int32))).1 (by decide) (by decide) kq)
    show Win p e below _ T61 (mkF mt 50 #[.val (.long a0_), .second, .val (.long b0_), .second, .val (.long c0_), .second, .val (.int n_), .val (.long xx), .second, .val (.long yy), .second, .val (.long zz), .second, .val (.int (0 : Int32)), .val (.ref b57), .unset, .unset, .unset, .unset, .unset, .unset] [])
    refine Win.st ?_ (fun tq kq => XS.iload X61.here hx rfl (hb hby at_50) rfl kq)
    show Win p e below _ T61 (mkF mt 52 #[.val (.long a0_), .second, .val (.long b0_), .second, .val (.long c0_), .second, .val (.int n_), .val (.long xx), .second, .val (.long yy), .second, .val (.long zz), .second, .val (.int (0 : Int32)), .val (.ref b57), .unset, .unset, .unset, .unset, .unset, .unset] [(.int (0 : Int32))])
    refine Win.st ?_ (fun tq kq => XS.iconst X61.here hx rfl (hb hby at_52) kq)
    show Win p e below _ T61 (mkF mt 53 #[.val (.long a0_), .second, .val (.long b0_), .second, .val (.long c0_), .second, .val (.int n_), .val (.long xx), .second, .val (.long yy), .second, .val (.long zz), .second, .val (.int (0 : Int32)), .val (.ref b57), .unset, .unset, .unset, .unset, .unset, .unset] [(.int (2 : Int32)), (.int (0 : Int32))])
    refine Win.st ?_ (fun tq kq => XS.icmpYes X61.here hx rfl (pc0 := 53) (pc' := 63) rfl (hb hby at_53) rfl (tlt (by decide : (0 : Int32) < (2 : Int32))).1 (by decide) (by decide) kq)
    show Win p e below _ T61 (mkF mt 63 #[.val (.long a0_), .second, .val (.long b0_), .second, .val (.long c0_), .second, .val (.int n_), .val (.long xx), .second, .val (.long yy), .second, .val (.long zz), .second, .val (.int (0 : Int32)), .val (.ref b57), .unset, .unset, .unset, .unset, .unset, .unset] [])
    refine Win.st ?_ (fun tq kq => XS.iload X61.here hx rfl (hb hby at_63) rfl kq)
    show Win p e below _ T61 (mkF mt 65 #[.val (.long a0_), .second, .val (.long b0_), .second, .val (.long c0_), .second, .val (.int n_), .val (.long xx), .second, .val (.long yy), .second, .val (.long zz), .second, .val (.int (0 : Int32)), .val (.ref b57), .unset, .unset, .unset, .unset, .unset, .unset] [(.int (0 : Int32))])
    refine Win.st ?_ (fun tq kq => XS.iconst X61.here hx rfl (hb hby at_65) kq)
    show Win p e below _ T61 (mkF mt 66 #[.val (.long a0_), .second, .val (.long b0_), .second, .val (.long c0_), .second, .val (.int n_), .val (.long xx), .second, .val (.long yy), .second, .val (.long zz), .second, .val (.int (0 : Int32)), .val (.ref b57), .unset, .unset, .unset, .unset, .unset, .unset] [(.int (3 : Int32)), (.int (0 : Int32))])
    refine Win.st ?_ (fun tq kq => XS.icmpYes X61.here hx rfl (pc0 := 66) (pc' := 76) rfl (hb hby at_66) rfl (tlt (by decide : (0 : Int32) < (3 : Int32))).1 (by decide) (by decide) kq)
    show Win p e below _ T61 (mkF mt 76 #[.val (.long a0_), .second, .val (.long b0_), .second, .val (.long c0_), .second, .val (.int n_), .val (.long xx), .second, .val (.long yy), .second, .val (.long zz), .second, .val (.int (0 : Int32)), .val (.ref b57), .unset, .unset, .unset, .unset, .unset, .unset] [])
    refine Win.st ?_ (fun tq kq => XS.lconst X61.here hx rfl (hb hby at_76) kq)
    show Win p e below _ T61 (mkF mt 77 #[.val (.long a0_), .second, .val (.long b0_), .second, .val (.long c0_), .second, .val (.int n_), .val (.long xx), .second, .val (.long yy), .second, .val (.long zz), .second, .val (.int (0 : Int32)), .val (.ref b57), .unset, .unset, .unset, .unset, .unset, .unset] [(.long (0 : Int64))])
    refine Win.st ?_ (fun tq kq => XS.lstore X61.here hx rfl (hb hby at_77) rfl (l' := #[.val (.long a0_), .second, .val (.long b0_), .second, .val (.long c0_), .second, .val (.int n_), .val (.long xx), .second, .val (.long yy), .second, .val (.long zz), .second, .val (.int (0 : Int32)), .val (.ref b57), .val (.long (0 : Int64)), .second, .unset, .unset, .unset, .unset]) rfl kq)
    show Win p e below _ T61 (mkF mt 79 #[.val (.long a0_), .second, .val (.long b0_), .second, .val (.long c0_), .second, .val (.int n_), .val (.long xx), .second, .val (.long yy), .second, .val (.long zz), .second, .val (.int (0 : Int32)), .val (.ref b57), .val (.long (0 : Int64)), .second, .unset, .unset, .unset, .unset] [])
    refine Win.st ?_ (fun tq kq => XS.lconst X61.here hx rfl (hb hby at_79) kq)
    show Win p e below _ T61 (mkF mt 80 #[.val (.long a0_), .second, .val (.long b0_), .second, .val (.long c0_), .second, .val (.int n_), .val (.long xx), .second, .val (.long yy), .second, .val (.long zz), .second, .val (.int (0 : Int32)), .val (.ref b57), .val (.long (0 : Int64)), .second, .unset, .unset, .unset, .unset] [(.long (0 : Int64))])
    refine Win.st ?_ (fun tq kq => XS.lstore X61.here hx rfl (hb hby at_80) rfl (l' := #[.val (.long a0_), .second, .val (.long b0_), .second, .val (.long c0_), .second, .val (.int n_), .val (.long xx), .second, .val (.long yy), .second, .val (.long zz), .second, .val (.int (0 : Int32)), .val (.ref b57), .val (.long (0 : Int64)), .second, .val (.long (0 : Int64)), .second, .unset, .unset]) rfl kq)
    show Win p e below _ T61 (mkF mt 82 #[.val (.long a0_), .second, .val (.long b0_), .second, .val (.long c0_), .second, .val (.int n_), .val (.long xx), .second, .val (.long yy), .second, .val (.long zz), .second, .val (.int (0 : Int32)), .val (.ref b57), .val (.long (0 : Int64)), .second, .val (.long (0 : Int64)), .second, .unset, .unset] [])
    refine Win.st ?_ (fun tq kq => XS.iload X61.here hx rfl (hb hby at_82) rfl kq)
    show Win p e below _ T61 (mkF mt 84 #[.val (.long a0_), .second, .val (.long b0_), .second, .val (.long c0_), .second, .val (.int n_), .val (.long xx), .second, .val (.long yy), .second, .val (.long zz), .second, .val (.int (0 : Int32)), .val (.ref b57), .val (.long (0 : Int64)), .second, .val (.long (0 : Int64)), .second, .unset, .unset] [(.int (0 : Int32))])
    refine Win.st ?_ (fun tq kq => XS.iconst X61.here hx rfl (hb hby at_84) kq)
    show Win p e below _ T61 (mkF mt 85 #[.val (.long a0_), .second, .val (.long b0_), .second, .val (.long c0_), .second, .val (.int n_), .val (.long xx), .second, .val (.long yy), .second, .val (.long zz), .second, .val (.int (0 : Int32)), .val (.ref b57), .val (.long (0 : Int64)), .second, .val (.long (0 : Int64)), .second, .unset, .unset] [(.int (1 : Int32)), (.int (0 : Int32))])
    refine Win.st ?_ (fun tq kq => XS.icmpYes X61.here hx rfl (pc0 := 85) (pc' := 99) rfl (hb hby at_85) rfl (tlt (by decide : (0 : Int32) < (1 : Int32))).1 (by decide) (by decide) kq)
    show Win p e below _ T61 (mkF mt 99 #[.val (.long a0_), .second, .val (.long b0_), .second, .val (.long c0_), .second, .val (.int n_), .val (.long xx), .second, .val (.long yy), .second, .val (.long zz), .second, .val (.int (0 : Int32)), .val (.ref b57), .val (.long (0 : Int64)), .second, .val (.long (0 : Int64)), .second, .unset, .unset] [])
    refine Win.st ?_ (fun tq kq => XS.iload X61.here hx rfl (hb hby at_99) rfl kq)
    show Win p e below _ T61 (mkF mt 101 #[.val (.long a0_), .second, .val (.long b0_), .second, .val (.long c0_), .second, .val (.int n_), .val (.long xx), .second, .val (.long yy), .second, .val (.long zz), .second, .val (.int (0 : Int32)), .val (.ref b57), .val (.long (0 : Int64)), .second, .val (.long (0 : Int64)), .second, .unset, .unset] [(.int (0 : Int32))])
    refine Win.st ?_ (fun tq kq => XS.iconst X61.here hx rfl (hb hby at_101) kq)
    show Win p e below _ T61 (mkF mt 102 #[.val (.long a0_), .second, .val (.long b0_), .second, .val (.long c0_), .second, .val (.int n_), .val (.long xx), .second, .val (.long yy), .second, .val (.long zz), .second, .val (.int (0 : Int32)), .val (.ref b57), .val (.long (0 : Int64)), .second, .val (.long (0 : Int64)), .second, .unset, .unset] [(.int (2 : Int32)), (.int (0 : Int32))])
    refine Win.st ?_ (fun tq kq => XS.icmpYes X61.here hx rfl (pc0 := 102) (pc' := 124) rfl (hb hby at_102) rfl (tlt (by decide : (0 : Int32) < (2 : Int32))).1 (by decide) (by decide) kq)
    show Win p e below _ T61 (mkF mt 124 #[.val (.long a0_), .second, .val (.long b0_), .second, .val (.long c0_), .second, .val (.int n_), .val (.long xx), .second, .val (.long yy), .second, .val (.long zz), .second, .val (.int (0 : Int32)), .val (.ref b57), .val (.long (0 : Int64)), .second, .val (.long (0 : Int64)), .second, .unset, .unset] [])
    refine Win.st ?_ (fun tq kq => XS.iload X61.here hx rfl (hb hby at_124) rfl kq)
    show Win p e below _ T61 (mkF mt 126 #[.val (.long a0_), .second, .val (.long b0_), .second, .val (.long c0_), .second, .val (.int n_), .val (.long xx), .second, .val (.long yy), .second, .val (.long zz), .second, .val (.int (0 : Int32)), .val (.ref b57), .val (.long (0 : Int64)), .second, .val (.long (0 : Int64)), .second, .unset, .unset] [(.int (0 : Int32))])
    refine Win.st ?_ (fun tq kq => XS.iconst X61.here hx rfl (hb hby at_126) kq)
    show Win p e below _ T61 (mkF mt 127 #[.val (.long a0_), .second, .val (.long b0_), .second, .val (.long c0_), .second, .val (.int n_), .val (.long xx), .second, .val (.long yy), .second, .val (.long zz), .second, .val (.int (0 : Int32)), .val (.ref b57), .val (.long (0 : Int64)), .second, .val (.long (0 : Int64)), .second, .unset, .unset] [(.int (3 : Int32)), (.int (0 : Int32))])
    refine Win.st ?_ (fun tq kq => XS.icmpYes X61.here hx rfl (pc0 := 127) (pc' := 149) rfl (hb hby at_127) rfl (tlt (by decide : (0 : Int32) < (3 : Int32))).1 (by decide) (by decide) kq)
    show Win p e below _ T61 (mkF mt 149 #[.val (.long a0_), .second, .val (.long b0_), .second, .val (.long c0_), .second, .val (.int n_), .val (.long xx), .second, .val (.long yy), .second, .val (.long zz), .second, .val (.int (0 : Int32)), .val (.ref b57), .val (.long (0 : Int64)), .second, .val (.long (0 : Int64)), .second, .unset, .unset] [])
    refine Win.st ?_ (fun tq kq => XS.iload X61.here hx rfl (hb hby at_149) rfl kq)
    show Win p e below _ T61 (mkF mt 151 #[.val (.long a0_), .second, .val (.long b0_), .second, .val (.long c0_), .second, .val (.int n_), .val (.long xx), .second, .val (.long yy), .second, .val (.long zz), .second, .val (.int (0 : Int32)), .val (.ref b57), .val (.long (0 : Int64)), .second, .val (.long (0 : Int64)), .second, .unset, .unset] [(.int (0 : Int32))])
    refine Win.st ?_ (fun tq kq => XS.ifNo X61.here hx rfl (hb hby at_151) rfl ((if0 _ _).trans (teq (rfl : (0 : Int32) = (0 : Int32))).2) kq)
    show Win p e below _ T61 (mkF mt 154 #[.val (.long a0_), .second, .val (.long b0_), .second, .val (.long c0_), .second, .val (.int n_), .val (.long xx), .second, .val (.long yy), .second, .val (.long zz), .second, .val (.int (0 : Int32)), .val (.ref b57), .val (.long (0 : Int64)), .second, .val (.long (0 : Int64)), .second, .unset, .unset] [])
    refine Win.st ?_ (fun tq kq => XS.lconst X61.here hx rfl (hb hby at_154) kq)
    show Win p e below _ T61 (mkF mt 155 #[.val (.long a0_), .second, .val (.long b0_), .second, .val (.long c0_), .second, .val (.int n_), .val (.long xx), .second, .val (.long yy), .second, .val (.long zz), .second, .val (.int (0 : Int32)), .val (.ref b57), .val (.long (0 : Int64)), .second, .val (.long (0 : Int64)), .second, .unset, .unset] [(.long (0 : Int64))])
    refine Win.st ?_ (fun tq kq => XS.goto X61.here hx rfl (pc0 := 155) (pc' := 164) rfl (hb hby at_155) (by decide) (by decide) kq)
    show Win p e below _ T61 (mkF mt 164 #[.val (.long a0_), .second, .val (.long b0_), .second, .val (.long c0_), .second, .val (.int n_), .val (.long xx), .second, .val (.long yy), .second, .val (.long zz), .second, .val (.int (0 : Int32)), .val (.ref b57), .val (.long (0 : Int64)), .second, .val (.long (0 : Int64)), .second, .unset, .unset] [(.long (0 : Int64))])
    refine Win.st ?_ (fun tq kq => XS.lstore X61.here hx rfl (hb hby at_164) rfl (l' := #[.val (.long a0_), .second, .val (.long b0_), .second, .val (.long c0_), .second, .val (.int n_), .val (.long xx), .second, .val (.long yy), .second, .val (.long zz), .second, .val (.int (0 : Int32)), .val (.ref b57), .val (.long (0 : Int64)), .second, .val (.long (0 : Int64)), .second, .val (.long (0 : Int64)), .second]) rfl kq)
    show Win p e below _ T61 (mkF mt 166 #[.val (.long a0_), .second, .val (.long b0_), .second, .val (.long c0_), .second, .val (.int n_), .val (.long xx), .second, .val (.long yy), .second, .val (.long zz), .second, .val (.int (0 : Int32)), .val (.ref b57), .val (.long (0 : Int64)), .second, .val (.long (0 : Int64)), .second, .val (.long (0 : Int64)), .second] [])
    refine Win.st ?_ (fun tq kq => XS.aload X61.here hx rfl (hb hby at_166) rfl rfl kq)
    show Win p e below _ T61 (mkF mt 168 #[.val (.long a0_), .second, .val (.long b0_), .second, .val (.long c0_), .second, .val (.int n_), .val (.long xx), .second, .val (.long yy), .second, .val (.long zz), .second, .val (.int (0 : Int32)), .val (.ref b57), .val (.long (0 : Int64)), .second, .val (.long (0 : Int64)), .second, .val (.long (0 : Int64)), .second] [(.ref b57)])
    obtain ⟨cq64, kq64, q64a, q64b, q64c⟩ := isOf hZ e61 f62_74
    obtain ⟨v64, _, ⟨T64, L64, k64, n64⟩, -, X64, ⟨Lc64, hQ64, l64, y64, z64⟩, st64⟩ := X61.virtualBack hx (y := (⟨"com/example/interleave/interleave/Tally", "committed", "()J"⟩ : MethodName)) (z := (⟨"com/example/interleave/interleave/Tally", "committed", "()J"⟩ : MethodName)) hown (mvT hZ (hw _ (List.mem_of_getElem? (i := 43) rfl))) (mvT hZ (hw _ (List.mem_of_getElem? (i := 44) rfl))) (notFace_of_selects (args := #[]) (mvT hZ (hw _ (List.mem_of_getElem? (i := 46) rfl)))) (mvT hZ (hw _ (List.mem_of_getElem? (i := 46) rfl))) (mvT hZ (hw _ (List.mem_of_getElem? (i := 45) rfl))) (by decide) (backOf (W := 0) (rm_gcommitted l Z a0 hw [] b57 (0 : Int64) h61 n0 Z63 t61_cm) hZ (hw _ (List.mem_of_getElem? (i := 47) rfl)) (hw _ (List.mem_of_getElem? (i := 3) rfl)) (by decide) (by decide)) q64a q64c (g := (mkF mt 168 #[.val (.long a0_), .second, .val (.long b0_), .second, .val (.long c0_), .second, .val (.int n_), .val (.long xx), .second, .val (.long yy), .second, .val (.long zz), .second, .val (.int (0 : Int32)), .val (.ref b57), .val (.long (0 : Int64)), .second, .val (.long (0 : Int64)), .second, .val (.long (0 : Int64)), .second] [(.ref b57)])) rfl (by rw [hml]; rfl) (Steps.refl _) (argsL := []) (rest := []) (lenOf pd_2 rfl) rfl (by show 2 * 0 + _ ≤ _; exact Nat.le_of_eq rfl) (hb hby at_168) (fun _ _ => ⟨rfl, e61, (by decide : 2 + 0 ≤ _), (by decide : 15 + 0 ≤ _)⟩)
    dsimp only [Pt.U, Pt.locs, Pt.cells, Pt.slots] at X64 l64 y64 z64 st64 hQ64
    subst y64 z64
    replace X64 : Stand p l e _ s mt args below meth cd T64 L64 2 15 := X64
    obtain ⟨h64, e64⟩ : ∃ z, T64.heap = z := ⟨_, rfl⟩
    rw [e64] at hQ64
    obtain ⟨rfl, Nq64, eh64⟩ := hQ64
    have N64 : Fr n0 L64 := by rw [l64]; exact Fr.app N61 Nq64
    rw [eh64] at e64
    refine Win.tr ?_ st64
    show Win p e below _ T64 (mkF mt 171 #[.val (.long a0_), .second, .val (.long b0_), .second, .val (.long c0_), .second, .val (.int n_), .val (.long xx), .second, .val (.long yy), .second, .val (.long zz), .second, .val (.int (0 : Int32)), .val (.ref b57), .val (.long (0 : Int64)), .second, .val (.long (0 : Int64)), .second, .val (.long (0 : Int64)), .second] [(.long (0 : Int64))])
    refine Win.st ?_ (fun tq kq => XS.iload X64.here hx rfl (hb hby at_171) rfl kq)
    show Win p e below _ T64 (mkF mt 173 #[.val (.long a0_), .second, .val (.long b0_), .second, .val (.long c0_), .second, .val (.int n_), .val (.long xx), .second, .val (.long yy), .second, .val (.long zz), .second, .val (.int (0 : Int32)), .val (.ref b57), .val (.long (0 : Int64)), .second, .val (.long (0 : Int64)), .second, .val (.long (0 : Int64)), .second] [(.int (0 : Int32)), (.long (0 : Int64))])
    refine Win.st ?_ (fun tq kq => XS.i2l X64.here hx rfl (hb hby at_173) rfl kq)
    show Win p e below _ T64 (mkF mt 174 #[.val (.long a0_), .second, .val (.long b0_), .second, .val (.long c0_), .second, .val (.int n_), .val (.long xx), .second, .val (.long yy), .second, .val (.long zz), .second, .val (.int (0 : Int32)), .val (.ref b57), .val (.long (0 : Int64)), .second, .val (.long (0 : Int64)), .second, .val (.long (0 : Int64)), .second] [(.long ((0 : Int32).toInt64)), (.long (0 : Int64))])
    refine Win.st ?_ (fun tq kq => XS.lcmp X64.here hx rfl (hb hby at_174) rfl kq)
    show Win p e below _ T64 (mkF mt 175 #[.val (.long a0_), .second, .val (.long b0_), .second, .val (.long c0_), .second, .val (.int n_), .val (.long xx), .second, .val (.long yy), .second, .val (.long zz), .second, .val (.int (0 : Int32)), .val (.ref b57), .val (.long (0 : Int64)), .second, .val (.long (0 : Int64)), .second, .val (.long (0 : Int64)), .second] [(.int (lcmpW (0 : Int64) ((0 : Int32).toInt64)))])
    refine Win.st ?_ (fun tq kq => XS.ifNo X64.here hx rfl (hb hby at_175) rfl ((if0 _ _).trans (teq ((lw_eq _ _).mpr (by decide))).2) kq)
    show Win p e below _ T64 (mkF mt 178 #[.val (.long a0_), .second, .val (.long b0_), .second, .val (.long c0_), .second, .val (.int n_), .val (.long xx), .second, .val (.long yy), .second, .val (.long zz), .second, .val (.int (0 : Int32)), .val (.ref b57), .val (.long (0 : Int64)), .second, .val (.long (0 : Int64)), .second, .val (.long (0 : Int64)), .second] [])
    refine Win.st ?_ (fun tq kq => XS.aload X64.here hx rfl (hb hby at_178) rfl rfl kq)
    show Win p e below _ T64 (mkF mt 180 #[.val (.long a0_), .second, .val (.long b0_), .second, .val (.long c0_), .second, .val (.int n_), .val (.long xx), .second, .val (.long yy), .second, .val (.long zz), .second, .val (.int (0 : Int32)), .val (.ref b57), .val (.long (0 : Int64)), .second, .val (.long (0 : Int64)), .second, .val (.long (0 : Int64)), .second] [(.ref b57)])
    obtain ⟨cq65, kq65, q65a, q65b, q65c⟩ := isOf hZ e64 f62_74
    obtain ⟨v65, _, ⟨T65, L65, k65, n65⟩, -, X65, ⟨Lc65, hQ65, l65, y65, z65⟩, st65⟩ := X64.virtualBack hx (y := (⟨"com/example/interleave/interleave/Tally", "averageNanos", "()J"⟩ : MethodName)) (z := (⟨"com/example/interleave/interleave/Tally", "averageNanos", "()J"⟩ : MethodName)) hown (mvT hZ (hw _ (List.mem_of_getElem? (i := 48) rfl))) (mvT hZ (hw _ (List.mem_of_getElem? (i := 49) rfl))) (notFace_of_selects (args := #[]) (mvT hZ (hw _ (List.mem_of_getElem? (i := 51) rfl)))) (mvT hZ (hw _ (List.mem_of_getElem? (i := 51) rfl))) (mvT hZ (hw _ (List.mem_of_getElem? (i := 50) rfl))) (by decide) (backOf (W := 0) (rm_tavg l Z a0 hw [] b57 (0 : Int64) (0 : Int64) h61 n0 Z63 t61_cm t61_nn) hZ (hw _ (List.mem_of_getElem? (i := 52) rfl)) (hw _ (List.mem_of_getElem? (i := 3) rfl)) (by decide) (by decide)) q65a q65c (g := (mkF mt 180 #[.val (.long a0_), .second, .val (.long b0_), .second, .val (.long c0_), .second, .val (.int n_), .val (.long xx), .second, .val (.long yy), .second, .val (.long zz), .second, .val (.int (0 : Int32)), .val (.ref b57), .val (.long (0 : Int64)), .second, .val (.long (0 : Int64)), .second, .val (.long (0 : Int64)), .second] [(.ref b57)])) rfl (by rw [hml]; rfl) (Steps.refl _) (argsL := []) (rest := []) (lenOf pd_2 rfl) rfl (by show 2 * 0 + _ ≤ _; exact Nat.le_of_eq rfl) (hb hby at_180) (fun _ _ => ⟨rfl, e64, (by decide : 2 + 0 ≤ _), (by decide : 15 + 0 ≤ _)⟩)
    dsimp only [Pt.U, Pt.locs, Pt.cells, Pt.slots] at X65 l65 y65 z65 st65 hQ65
    subst y65 z65
    replace X65 : Stand p l e _ s mt args below meth cd T65 L65 2 15 := X65
    obtain ⟨h65, e65⟩ : ∃ z, T65.heap = z := ⟨_, rfl⟩
    rw [e65] at hQ65
    obtain ⟨rfl, Nq65, eh65⟩ := hQ65
    have N65 : Fr n0 L65 := by rw [l65]; exact Fr.app N64 Nq65
    rw [eh65] at e65
    refine Win.tr ?_ st65
    show Win p e below _ T65 (mkF mt 183 #[.val (.long a0_), .second, .val (.long b0_), .second, .val (.long c0_), .second, .val (.int n_), .val (.long xx), .second, .val (.long yy), .second, .val (.long zz), .second, .val (.int (0 : Int32)), .val (.ref b57), .val (.long (0 : Int64)), .second, .val (.long (0 : Int64)), .second, .val (.long (0 : Int64)), .second] [(.long (own_avg (0 : Int64) (0 : Int64)))])
    refine Win.st ?_ (fun tq kq => XS.lload X65.here hx rfl (hb hby at_183) rfl kq)
    show Win p e below _ T65 (mkF mt 185 #[.val (.long a0_), .second, .val (.long b0_), .second, .val (.long c0_), .second, .val (.int n_), .val (.long xx), .second, .val (.long yy), .second, .val (.long zz), .second, .val (.int (0 : Int32)), .val (.ref b57), .val (.long (0 : Int64)), .second, .val (.long (0 : Int64)), .second, .val (.long (0 : Int64)), .second] [(.long (0 : Int64)), (.long (own_avg (0 : Int64) (0 : Int64)))])
    refine Win.st ?_ (fun tq kq => XS.lcmp X65.here hx rfl (hb hby at_185) rfl kq)
    show Win p e below _ T65 (mkF mt 186 #[.val (.long a0_), .second, .val (.long b0_), .second, .val (.long c0_), .second, .val (.int n_), .val (.long xx), .second, .val (.long yy), .second, .val (.long zz), .second, .val (.int (0 : Int32)), .val (.ref b57), .val (.long (0 : Int64)), .second, .val (.long (0 : Int64)), .second, .val (.long (0 : Int64)), .second] [(.int (lcmpW (own_avg (0 : Int64) (0 : Int64)) (0 : Int64)))])
    refine Win.st ?_ (fun tq kq => XS.ifNo X65.here hx rfl (hb hby at_186) rfl ((if0 _ _).trans (teq ((lw_eq _ _).mpr (by decide))).2) kq)
    show Win p e below _ T65 (mkF mt 189 #[.val (.long a0_), .second, .val (.long b0_), .second, .val (.long c0_), .second, .val (.int n_), .val (.long xx), .second, .val (.long yy), .second, .val (.long zz), .second, .val (.int (0 : Int32)), .val (.ref b57), .val (.long (0 : Int64)), .second, .val (.long (0 : Int64)), .second, .val (.long (0 : Int64)), .second] [])
    refine Win.st ?_ (fun tq kq => XS.aload X65.here hx rfl (hb hby at_189) rfl rfl kq)
    show Win p e below _ T65 (mkF mt 191 #[.val (.long a0_), .second, .val (.long b0_), .second, .val (.long c0_), .second, .val (.int n_), .val (.long xx), .second, .val (.long yy), .second, .val (.long zz), .second, .val (.int (0 : Int32)), .val (.ref b57), .val (.long (0 : Int64)), .second, .val (.long (0 : Int64)), .second, .val (.long (0 : Int64)), .second] [(.ref b57)])
    obtain ⟨cq66, kq66, q66a, q66b, q66c⟩ := isOf hZ e65 f62_74
    obtain ⟨v66, _, ⟨T66, L66, k66, n66⟩, -, X66, ⟨Lc66, hQ66, l66, y66, z66⟩, st66⟩ := X65.virtualBack hx (y := (⟨"com/example/interleave/interleave/Tally", "longestNanos", "()J"⟩ : MethodName)) (z := (⟨"com/example/interleave/interleave/Tally", "longestNanos", "()J"⟩ : MethodName)) hown (mvT hZ (hw _ (List.mem_of_getElem? (i := 53) rfl))) (mvT hZ (hw _ (List.mem_of_getElem? (i := 54) rfl))) (notFace_of_selects (args := #[]) (mvT hZ (hw _ (List.mem_of_getElem? (i := 56) rfl)))) (mvT hZ (hw _ (List.mem_of_getElem? (i := 56) rfl))) (mvT hZ (hw _ (List.mem_of_getElem? (i := 55) rfl))) (by decide) (backOf (W := 0) (rm_glongestNanos l Z a0 hw [] b57 (0 : Int64) h61 n0 Z63 t61_lo) hZ (hw _ (List.mem_of_getElem? (i := 57) rfl)) (hw _ (List.mem_of_getElem? (i := 3) rfl)) (by decide) (by decide)) q66a q66c (g := (mkF mt 191 #[.val (.long a0_), .second, .val (.long b0_), .second, .val (.long c0_), .second, .val (.int n_), .val (.long xx), .second, .val (.long yy), .second, .val (.long zz), .second, .val (.int (0 : Int32)), .val (.ref b57), .val (.long (0 : Int64)), .second, .val (.long (0 : Int64)), .second, .val (.long (0 : Int64)), .second] [(.ref b57)])) rfl (by rw [hml]; rfl) (Steps.refl _) (argsL := []) (rest := []) (lenOf pd_2 rfl) rfl (by show 2 * 0 + _ ≤ _; exact Nat.le_of_eq rfl) (hb hby at_191) (fun _ _ => ⟨rfl, e65, (by decide : 2 + 0 ≤ _), (by decide : 15 + 0 ≤ _)⟩)
    dsimp only [Pt.U, Pt.locs, Pt.cells, Pt.slots] at X66 l66 y66 z66 st66 hQ66
    subst y66 z66
    replace X66 : Stand p l e _ s mt args below meth cd T66 L66 2 15 := X66
    obtain ⟨h66, e66⟩ : ∃ z, T66.heap = z := ⟨_, rfl⟩
    rw [e66] at hQ66
    obtain ⟨rfl, Nq66, eh66⟩ := hQ66
    have N66 : Fr n0 L66 := by rw [l66]; exact Fr.app N65 Nq66
    rw [eh66] at e66
    refine Win.tr ?_ st66
    show Win p e below _ T66 (mkF mt 194 #[.val (.long a0_), .second, .val (.long b0_), .second, .val (.long c0_), .second, .val (.int n_), .val (.long xx), .second, .val (.long yy), .second, .val (.long zz), .second, .val (.int (0 : Int32)), .val (.ref b57), .val (.long (0 : Int64)), .second, .val (.long (0 : Int64)), .second, .val (.long (0 : Int64)), .second] [(.long (0 : Int64))])
    refine Win.st ?_ (fun tq kq => XS.lload X66.here hx rfl (hb hby at_194) rfl kq)
    show Win p e below _ T66 (mkF mt 196 #[.val (.long a0_), .second, .val (.long b0_), .second, .val (.long c0_), .second, .val (.int n_), .val (.long xx), .second, .val (.long yy), .second, .val (.long zz), .second, .val (.int (0 : Int32)), .val (.ref b57), .val (.long (0 : Int64)), .second, .val (.long (0 : Int64)), .second, .val (.long (0 : Int64)), .second] [(.long (0 : Int64)), (.long (0 : Int64))])
    refine Win.st ?_ (fun tq kq => XS.lcmp X66.here hx rfl (hb hby at_196) rfl kq)
    show Win p e below _ T66 (mkF mt 197 #[.val (.long a0_), .second, .val (.long b0_), .second, .val (.long c0_), .second, .val (.int n_), .val (.long xx), .second, .val (.long yy), .second, .val (.long zz), .second, .val (.int (0 : Int32)), .val (.ref b57), .val (.long (0 : Int64)), .second, .val (.long (0 : Int64)), .second, .val (.long (0 : Int64)), .second] [(.int (lcmpW (0 : Int64) (0 : Int64)))])
    refine Win.st ?_ (fun tq kq => XS.ifNo X66.here hx rfl (hb hby at_197) rfl ((if0 _ _).trans (teq ((lw_eq _ _).mpr (rfl))).2) kq)
    show Win p e below _ T66 (mkF mt 200 #[.val (.long a0_), .second, .val (.long b0_), .second, .val (.long c0_), .second, .val (.int n_), .val (.long xx), .second, .val (.long yy), .second, .val (.long zz), .second, .val (.int (0 : Int32)), .val (.ref b57), .val (.long (0 : Int64)), .second, .val (.long (0 : Int64)), .second, .val (.long (0 : Int64)), .second] [])
    refine Win.st ?_ (fun tq kq => XS.aload X66.here hx rfl (hb hby at_200) rfl rfl kq)
    show Win p e below _ T66 (mkF mt 202 #[.val (.long a0_), .second, .val (.long b0_), .second, .val (.long c0_), .second, .val (.int n_), .val (.long xx), .second, .val (.long yy), .second, .val (.long zz), .second, .val (.int (0 : Int32)), .val (.ref b57), .val (.long (0 : Int64)), .second, .val (.long (0 : Int64)), .second, .val (.long (0 : Int64)), .second] [(.ref b57)])
    obtain ⟨cq67, kq67, q67a, q67b, q67c⟩ := isOf hZ e66 f62_74
    obtain ⟨v67, _, ⟨T67, L67, k67, n67⟩, -, X67, ⟨Lc67, hQ67, l67, y67, z67⟩, st67⟩ := X66.virtualBack hx (y := (⟨"com/example/interleave/interleave/Tally", "started", "()J"⟩ : MethodName)) (z := (⟨"com/example/interleave/interleave/Tally", "started", "()J"⟩ : MethodName)) hown (mvT hZ (hw _ (List.mem_of_getElem? (i := 58) rfl))) (mvT hZ (hw _ (List.mem_of_getElem? (i := 59) rfl))) (notFace_of_selects (args := #[]) (mvT hZ (hw _ (List.mem_of_getElem? (i := 61) rfl)))) (mvT hZ (hw _ (List.mem_of_getElem? (i := 61) rfl))) (mvT hZ (hw _ (List.mem_of_getElem? (i := 60) rfl))) (by decide) (backOf (W := 0) (rm_gstarted l Z a0 hw [] b57 (0 : Int64) h61 n0 Z63 t61_st) hZ (hw _ (List.mem_of_getElem? (i := 62) rfl)) (hw _ (List.mem_of_getElem? (i := 3) rfl)) (by decide) (by decide)) q67a q67c (g := (mkF mt 202 #[.val (.long a0_), .second, .val (.long b0_), .second, .val (.long c0_), .second, .val (.int n_), .val (.long xx), .second, .val (.long yy), .second, .val (.long zz), .second, .val (.int (0 : Int32)), .val (.ref b57), .val (.long (0 : Int64)), .second, .val (.long (0 : Int64)), .second, .val (.long (0 : Int64)), .second] [(.ref b57)])) rfl (by rw [hml]; rfl) (Steps.refl _) (argsL := []) (rest := []) (lenOf pd_2 rfl) rfl (by show 2 * 0 + _ ≤ _; exact Nat.le_of_eq rfl) (hb hby at_202) (fun _ _ => ⟨rfl, e66, (by decide : 2 + 0 ≤ _), (by decide : 15 + 0 ≤ _)⟩)
    dsimp only [Pt.U, Pt.locs, Pt.cells, Pt.slots] at X67 l67 y67 z67 st67 hQ67
    subst y67 z67
    replace X67 : Stand p l e _ s mt args below meth cd T67 L67 2 15 := X67
    obtain ⟨h67, e67⟩ : ∃ z, T67.heap = z := ⟨_, rfl⟩
    rw [e67] at hQ67
    obtain ⟨rfl, Nq67, eh67⟩ := hQ67
    have N67 : Fr n0 L67 := by rw [l67]; exact Fr.app N66 Nq67
    rw [eh67] at e67
    refine Win.tr ?_ st67
    show Win p e below _ T67 (mkF mt 205 #[.val (.long a0_), .second, .val (.long b0_), .second, .val (.long c0_), .second, .val (.int n_), .val (.long xx), .second, .val (.long yy), .second, .val (.long zz), .second, .val (.int (0 : Int32)), .val (.ref b57), .val (.long (0 : Int64)), .second, .val (.long (0 : Int64)), .second, .val (.long (0 : Int64)), .second] [(.long (0 : Int64))])
    refine Win.st ?_ (fun tq kq => XS.lconst X67.here hx rfl (hb hby at_205) kq)
    show Win p e below _ T67 (mkF mt 206 #[.val (.long a0_), .second, .val (.long b0_), .second, .val (.long c0_), .second, .val (.int n_), .val (.long xx), .second, .val (.long yy), .second, .val (.long zz), .second, .val (.int (0 : Int32)), .val (.ref b57), .val (.long (0 : Int64)), .second, .val (.long (0 : Int64)), .second, .val (.long (0 : Int64)), .second] [(.long (0 : Int64)), (.long (0 : Int64))])
    refine Win.st ?_ (fun tq kq => XS.lcmp X67.here hx rfl (hb hby at_206) rfl kq)
    show Win p e below _ T67 (mkF mt 207 #[.val (.long a0_), .second, .val (.long b0_), .second, .val (.long c0_), .second, .val (.int n_), .val (.long xx), .second, .val (.long yy), .second, .val (.long zz), .second, .val (.int (0 : Int32)), .val (.ref b57), .val (.long (0 : Int64)), .second, .val (.long (0 : Int64)), .second, .val (.long (0 : Int64)), .second] [(.int (lcmpW (0 : Int64) (0 : Int64)))])
    refine Win.st ?_ (fun tq kq => XS.ifNo X67.here hx rfl (hb hby at_207) rfl ((if0 _ _).trans (teq ((lw_eq _ _).mpr rfl)).2) kq)
    show Win p e below _ T67 (mkF mt 210 #[.val (.long a0_), .second, .val (.long b0_), .second, .val (.long c0_), .second, .val (.int n_), .val (.long xx), .second, .val (.long yy), .second, .val (.long zz), .second, .val (.int (0 : Int32)), .val (.ref b57), .val (.long (0 : Int64)), .second, .val (.long (0 : Int64)), .second, .val (.long (0 : Int64)), .second] [])
    refine Win.st ?_ (fun tq kq => XS.aload X67.here hx rfl (hb hby at_210) rfl rfl kq)
    show Win p e below _ T67 (mkF mt 212 #[.val (.long a0_), .second, .val (.long b0_), .second, .val (.long c0_), .second, .val (.int n_), .val (.long xx), .second, .val (.long yy), .second, .val (.long zz), .second, .val (.int (0 : Int32)), .val (.ref b57), .val (.long (0 : Int64)), .second, .val (.long (0 : Int64)), .second, .val (.long (0 : Int64)), .second] [(.ref b57)])
    obtain ⟨cq68, kq68, q68a, q68b, q68c⟩ := isOf hZ e67 f62_74
    obtain ⟨v68, _, ⟨T68, L68, k68, n68⟩, -, X68, ⟨Lc68, hQ68, l68, y68, z68⟩, st68⟩ := X67.virtualBack hx (y := (⟨"com/example/interleave/interleave/Tally", "failed", "()J"⟩ : MethodName)) (z := (⟨"com/example/interleave/interleave/Tally", "failed", "()J"⟩ : MethodName)) hown (mvT hZ (hw _ (List.mem_of_getElem? (i := 65) rfl))) (mvT hZ (hw _ (List.mem_of_getElem? (i := 66) rfl))) (notFace_of_selects (args := #[]) (mvT hZ (hw _ (List.mem_of_getElem? (i := 68) rfl)))) (mvT hZ (hw _ (List.mem_of_getElem? (i := 68) rfl))) (mvT hZ (hw _ (List.mem_of_getElem? (i := 67) rfl))) (by decide) (backOf (W := 0) (rm_gfailed l Z a0 hw [] b57 (0 : Int64) h61 n0 Z63 t61_fa) hZ (hw _ (List.mem_of_getElem? (i := 69) rfl)) (hw _ (List.mem_of_getElem? (i := 3) rfl)) (by decide) (by decide)) q68a q68c (g := (mkF mt 212 #[.val (.long a0_), .second, .val (.long b0_), .second, .val (.long c0_), .second, .val (.int n_), .val (.long xx), .second, .val (.long yy), .second, .val (.long zz), .second, .val (.int (0 : Int32)), .val (.ref b57), .val (.long (0 : Int64)), .second, .val (.long (0 : Int64)), .second, .val (.long (0 : Int64)), .second] [(.ref b57)])) rfl (by rw [hml]; rfl) (Steps.refl _) (argsL := []) (rest := []) (lenOf pd_2 rfl) rfl (by show 2 * 0 + _ ≤ _; exact Nat.le_of_eq rfl) (hb hby at_212) (fun _ _ => ⟨rfl, e67, (by decide : 2 + 0 ≤ _), (by decide : 15 + 0 ≤ _)⟩)
    dsimp only [Pt.U, Pt.locs, Pt.cells, Pt.slots] at X68 l68 y68 z68 st68 hQ68
    subst y68 z68
    replace X68 : Stand p l e _ s mt args below meth cd T68 L68 2 15 := X68
    obtain ⟨h68, e68⟩ : ∃ z, T68.heap = z := ⟨_, rfl⟩
    rw [e68] at hQ68
    obtain ⟨rfl, Nq68, eh68⟩ := hQ68
    have N68 : Fr n0 L68 := by rw [l68]; exact Fr.app N67 Nq68
    rw [eh68] at e68
    refine Win.tr ?_ st68
    show Win p e below _ T68 (mkF mt 215 #[.val (.long a0_), .second, .val (.long b0_), .second, .val (.long c0_), .second, .val (.int n_), .val (.long xx), .second, .val (.long yy), .second, .val (.long zz), .second, .val (.int (0 : Int32)), .val (.ref b57), .val (.long (0 : Int64)), .second, .val (.long (0 : Int64)), .second, .val (.long (0 : Int64)), .second] [(.long (0 : Int64))])
    refine Win.st ?_ (fun tq kq => XS.lconst X68.here hx rfl (hb hby at_215) kq)
    show Win p e below _ T68 (mkF mt 216 #[.val (.long a0_), .second, .val (.long b0_), .second, .val (.long c0_), .second, .val (.int n_), .val (.long xx), .second, .val (.long yy), .second, .val (.long zz), .second, .val (.int (0 : Int32)), .val (.ref b57), .val (.long (0 : Int64)), .second, .val (.long (0 : Int64)), .second, .val (.long (0 : Int64)), .second] [(.long (0 : Int64)), (.long (0 : Int64))])
    refine Win.st ?_ (fun tq kq => XS.lcmp X68.here hx rfl (hb hby at_216) rfl kq)
    show Win p e below _ T68 (mkF mt 217 #[.val (.long a0_), .second, .val (.long b0_), .second, .val (.long c0_), .second, .val (.int n_), .val (.long xx), .second, .val (.long yy), .second, .val (.long zz), .second, .val (.int (0 : Int32)), .val (.ref b57), .val (.long (0 : Int64)), .second, .val (.long (0 : Int64)), .second, .val (.long (0 : Int64)), .second] [(.int (lcmpW (0 : Int64) (0 : Int64)))])
    refine Win.st ?_ (fun tq kq => XS.ifNo X68.here hx rfl (hb hby at_217) rfl ((if0 _ _).trans (teq ((lw_eq _ _).mpr rfl)).2) kq)
    show Win p e below _ T68 (mkF mt 220 #[.val (.long a0_), .second, .val (.long b0_), .second, .val (.long c0_), .second, .val (.int n_), .val (.long xx), .second, .val (.long yy), .second, .val (.long zz), .second, .val (.int (0 : Int32)), .val (.ref b57), .val (.long (0 : Int64)), .second, .val (.long (0 : Int64)), .second, .val (.long (0 : Int64)), .second] [])
    refine Win.st ?_ (fun tq kq => XS.aload X68.here hx rfl (hb hby at_220) rfl rfl kq)
    show Win p e below _ T68 (mkF mt 222 #[.val (.long a0_), .second, .val (.long b0_), .second, .val (.long c0_), .second, .val (.int n_), .val (.long xx), .second, .val (.long yy), .second, .val (.long zz), .second, .val (.int (0 : Int32)), .val (.ref b57), .val (.long (0 : Int64)), .second, .val (.long (0 : Int64)), .second, .val (.long (0 : Int64)), .second] [(.ref b57)])
    obtain ⟨cq69, kq69, q69a, q69b, q69c⟩ := isOf hZ e68 f62_74
    obtain ⟨v69, _, ⟨T69, L69, k69, n69⟩, -, X69, ⟨Lc69, hQ69, l69, y69, z69⟩, st69⟩ := X68.virtualBack hx (y := (⟨"com/example/interleave/interleave/Tally", "retried", "()J"⟩ : MethodName)) (z := (⟨"com/example/interleave/interleave/Tally", "retried", "()J"⟩ : MethodName)) hown (mvT hZ (hw _ (List.mem_of_getElem? (i := 72) rfl))) (mvT hZ (hw _ (List.mem_of_getElem? (i := 73) rfl))) (notFace_of_selects (args := #[]) (mvT hZ (hw _ (List.mem_of_getElem? (i := 75) rfl)))) (mvT hZ (hw _ (List.mem_of_getElem? (i := 75) rfl))) (mvT hZ (hw _ (List.mem_of_getElem? (i := 74) rfl))) (by decide) (backOf (W := 0) (rm_gretried l Z a0 hw [] b57 (0 : Int64) h61 n0 Z63 t61_re) hZ (hw _ (List.mem_of_getElem? (i := 76) rfl)) (hw _ (List.mem_of_getElem? (i := 3) rfl)) (by decide) (by decide)) q69a q69c (g := (mkF mt 222 #[.val (.long a0_), .second, .val (.long b0_), .second, .val (.long c0_), .second, .val (.int n_), .val (.long xx), .second, .val (.long yy), .second, .val (.long zz), .second, .val (.int (0 : Int32)), .val (.ref b57), .val (.long (0 : Int64)), .second, .val (.long (0 : Int64)), .second, .val (.long (0 : Int64)), .second] [(.ref b57)])) rfl (by rw [hml]; rfl) (Steps.refl _) (argsL := []) (rest := []) (lenOf pd_2 rfl) rfl (by show 2 * 0 + _ ≤ _; exact Nat.le_of_eq rfl) (hb hby at_222) (fun _ _ => ⟨rfl, e68, (by decide : 2 + 0 ≤ _), (by decide : 15 + 0 ≤ _)⟩)
    dsimp only [Pt.U, Pt.locs, Pt.cells, Pt.slots] at X69 l69 y69 z69 st69 hQ69
    subst y69 z69
    replace X69 : Stand p l e _ s mt args below meth cd T69 L69 2 15 := X69
    obtain ⟨h69, e69⟩ : ∃ z, T69.heap = z := ⟨_, rfl⟩
    rw [e69] at hQ69
    obtain ⟨rfl, Nq69, eh69⟩ := hQ69
    have N69 : Fr n0 L69 := by rw [l69]; exact Fr.app N68 Nq69
    rw [eh69] at e69
    refine Win.tr ?_ st69
    show Win p e below _ T69 (mkF mt 225 #[.val (.long a0_), .second, .val (.long b0_), .second, .val (.long c0_), .second, .val (.int n_), .val (.long xx), .second, .val (.long yy), .second, .val (.long zz), .second, .val (.int (0 : Int32)), .val (.ref b57), .val (.long (0 : Int64)), .second, .val (.long (0 : Int64)), .second, .val (.long (0 : Int64)), .second] [(.long (0 : Int64))])
    refine Win.st ?_ (fun tq kq => XS.lconst X69.here hx rfl (hb hby at_225) kq)
    show Win p e below _ T69 (mkF mt 226 #[.val (.long a0_), .second, .val (.long b0_), .second, .val (.long c0_), .second, .val (.int n_), .val (.long xx), .second, .val (.long yy), .second, .val (.long zz), .second, .val (.int (0 : Int32)), .val (.ref b57), .val (.long (0 : Int64)), .second, .val (.long (0 : Int64)), .second, .val (.long (0 : Int64)), .second] [(.long (0 : Int64)), (.long (0 : Int64))])
    refine Win.st ?_ (fun tq kq => XS.lcmp X69.here hx rfl (hb hby at_226) rfl kq)
    show Win p e below _ T69 (mkF mt 227 #[.val (.long a0_), .second, .val (.long b0_), .second, .val (.long c0_), .second, .val (.int n_), .val (.long xx), .second, .val (.long yy), .second, .val (.long zz), .second, .val (.int (0 : Int32)), .val (.ref b57), .val (.long (0 : Int64)), .second, .val (.long (0 : Int64)), .second, .val (.long (0 : Int64)), .second] [(.int (lcmpW (0 : Int64) (0 : Int64)))])
    refine Win.st ?_ (fun tq kq => XS.ifNo X69.here hx rfl (hb hby at_227) rfl ((if0 _ _).trans (teq ((lw_eq _ _).mpr rfl)).2) kq)
    show Win p e below _ T69 (mkF mt 230 #[.val (.long a0_), .second, .val (.long b0_), .second, .val (.long c0_), .second, .val (.int n_), .val (.long xx), .second, .val (.long yy), .second, .val (.long zz), .second, .val (.int (0 : Int32)), .val (.ref b57), .val (.long (0 : Int64)), .second, .val (.long (0 : Int64)), .second, .val (.long (0 : Int64)), .second] [])
    refine Win.st ?_ (fun tq kq => XS.iconst X69.here hx rfl (hb hby at_230) kq)
    show Win p e below _ T69 (mkF mt 231 #[.val (.long a0_), .second, .val (.long b0_), .second, .val (.long c0_), .second, .val (.int n_), .val (.long xx), .second, .val (.long yy), .second, .val (.long zz), .second, .val (.int (0 : Int32)), .val (.ref b57), .val (.long (0 : Int64)), .second, .val (.long (0 : Int64)), .second, .val (.long (0 : Int64)), .second] [(.int (1 : Int32))])
    refine Win.st ?_ (fun tq kq => XS.goto X69.here hx rfl (pc0 := 231) (pc' := 235) rfl (hb hby at_231) (by decide) (by decide) kq)
    show Win p e below _ T69 (mkF mt 235 #[.val (.long a0_), .second, .val (.long b0_), .second, .val (.long c0_), .second, .val (.int n_), .val (.long xx), .second, .val (.long yy), .second, .val (.long zz), .second, .val (.int (0 : Int32)), .val (.ref b57), .val (.long (0 : Int64)), .second, .val (.long (0 : Int64)), .second, .val (.long (0 : Int64)), .second] [(.int (1 : Int32))])
    exact Win.retN X69 hx hlk e69 (t := .boolean) (z' := (1 : Int32)) hrt (by simp) (hb hby at_235) (by decide) (by decide) rfl ⟨rfl, N69⟩
  · show Win p e below _ T61 (mkF mt 37 #[.val (.long a0_), .second, .val (.long b0_), .second, .val (.long c0_), .second, .val (.int n_), .val (.long xx), .second, .val (.long yy), .second, .val (.long zz), .second, .val (.int (1 : Int32)), .val (.ref b57), .unset, .unset, .unset, .unset, .unset, .unset] [])
    refine Win.st ?_ (fun tq kq => XS.iload X61.here hx rfl (hb hby at_37) rfl kq)
    show Win p e below _ T61 (mkF mt 39 #[.val (.long a0_), .second, .val (.long b0_), .second, .val (.long c0_), .second, .val (.int n_), .val (.long xx), .second, .val (.long yy), .second, .val (.long zz), .second, .val (.int (1 : Int32)), .val (.ref b57), .unset, .unset, .unset, .unset, .unset, .unset] [(.int (1 : Int32))])
    refine Win.st ?_ (fun tq kq => XS.iconst X61.here hx rfl (hb hby at_39) kq)
    show Win p e below _ T61 (mkF mt 40 #[.val (.long a0_), .second, .val (.long b0_), .second, .val (.long c0_), .second, .val (.int n_), .val (.long xx), .second, .val (.long yy), .second, .val (.long zz), .second, .val (.int (1 : Int32)), .val (.ref b57), .unset, .unset, .unset, .unset, .unset, .unset] [(.int (1 : Int32)), (.int (1 : Int32))])
    refine Win.st ?_ (fun tq kq => XS.icmpNo X61.here hx rfl (hb hby at_40) rfl (flt (Int32.lt_irrefl)).1 kq)
    show Win p e below _ T61 (mkF mt 43 #[.val (.long a0_), .second, .val (.long b0_), .second, .val (.long c0_), .second, .val (.int n_), .val (.long xx), .second, .val (.long yy), .second, .val (.long zz), .second, .val (.int (1 : Int32)), .val (.ref b57), .unset, .unset, .unset, .unset, .unset, .unset] [])
    refine Win.st ?_ (fun tq kq => XS.aload X61.here hx rfl (hb hby at_43) rfl rfl kq)
    show Win p e below _ T61 (mkF mt 45 #[.val (.long a0_), .second, .val (.long b0_), .second, .val (.long c0_), .second, .val (.int n_), .val (.long xx), .second, .val (.long yy), .second, .val (.long zz), .second, .val (.int (1 : Int32)), .val (.ref b57), .unset, .unset, .unset, .unset, .unset, .unset] [(.ref b57)])
    refine Win.st ?_ (fun tq kq => XS.lload X61.here hx rfl (hb hby at_45) rfl kq)
    show Win p e below _ T61 (mkF mt 47 #[.val (.long a0_), .second, .val (.long b0_), .second, .val (.long c0_), .second, .val (.int n_), .val (.long xx), .second, .val (.long yy), .second, .val (.long zz), .second, .val (.int (1 : Int32)), .val (.ref b57), .unset, .unset, .unset, .unset, .unset, .unset] [(.long xx), (.ref b57)])
    obtain ⟨cq70, kq70, q70a, q70b, q70c⟩ := isOf hZ e61 f62_74
    obtain ⟨v70, _, ⟨T70, L70, k70, n70⟩, -, X70, ⟨Lc70, hQ70, l70, y70, z70⟩, st70⟩ := X61.virtualBack hx (y := (⟨"com/example/interleave/interleave/Tally", "commit", "(J)V"⟩ : MethodName)) (z := (⟨"com/example/interleave/interleave/Tally", "commit", "(J)V"⟩ : MethodName)) hown (mvT hZ (hw _ (List.mem_of_getElem? (i := 28) rfl))) (mvT hZ (hw _ (List.mem_of_getElem? (i := 29) rfl))) (notFace_of_selects (args := #[]) (mvT hZ (hw _ (List.mem_of_getElem? (i := 31) rfl)))) (mvT hZ (hw _ (List.mem_of_getElem? (i := 31) rfl))) (mvT hZ (hw _ (List.mem_of_getElem? (i := 30) rfl))) (by decide) (backOf (W := 0) (rm_tcommit l Z a0 hw [] b57 xx (0 : Int64) (0 : Int64) (0 : Int64) (0 : Int64) (0 : Int64) (0 : Int64) h61 n0 Z63 f62_74 t61_st t61_cm t61_nn t61_lo t61_re t61_fa g58) hZ (hw _ (List.mem_of_getElem? (i := 32) rfl)) (hw _ (List.mem_of_getElem? (i := 3) rfl)) (by decide) (by decide)) q70a q70c (g := (mkF mt 47 #[.val (.long a0_), .second, .val (.long b0_), .second, .val (.long c0_), .second, .val (.int n_), .val (.long xx), .second, .val (.long yy), .second, .val (.long zz), .second, .val (.int (1 : Int32)), .val (.ref b57), .unset, .unset, .unset, .unset, .unset, .unset] [(.long xx), (.ref b57)])) rfl (by rw [hml]; rfl) (Steps.refl _) (argsL := [(.long xx)]) (rest := []) (lenOf pd_3 rfl) rfl (by show 2 * 0 + _ ≤ _; exact Nat.le_of_eq rfl) (hb hby at_47) (fun _ _ => ⟨rfl, e61, (by decide : 2 + 0 ≤ _), (by decide : 15 + 0 ≤ _)⟩)
    dsimp only [Pt.U, Pt.locs, Pt.cells, Pt.slots] at X70 l70 y70 z70 st70 hQ70
    subst y70 z70
    replace X70 : Stand p l e _ s mt args below meth cd T70 L70 2 15 := X70
    obtain ⟨h70, e70⟩ : ∃ z, T70.heap = z := ⟨_, rfl⟩
    rw [e70] at hQ70
    obtain ⟨rfl, Nq70, K70, t70_st, t70_cm, t70_nn, t70_lo, t70_re, t70_fa⟩ := hQ70
    have N70 : Fr n0 L70 := by rw [l70]; exact Fr.app N61 Nq70
    have f71_283 := f62_74.keep K70
    have Z72 : n0 ≤ h70.size := Nat.le_trans Z63 K70.1
    refine Win.tr ?_ st70
    show Win p e below _ T70 (mkF mt 50 #[.val (.long a0_), .second, .val (.long b0_), .second, .val (.long c0_), .second, .val (.int n_), .val (.long xx), .second, .val (.long yy), .second, .val (.long zz), .second, .val (.int (1 : Int32)), .val (.ref b57), .unset, .unset, .unset, .unset, .unset, .unset] [])
    refine Win.st ?_ (fun tq kq => XS.iload X70.here hx rfl (hb hby at_50) rfl kq)
    show Win p e below _ T70 (mkF mt 52 #[.val (.long a0_), .second, .val (.long b0_), .second, .val (.long c0_), .second, .val (.int n_), .val (.long xx), .second, .val (.long yy), .second, .val (.long zz), .second, .val (.int (1 : Int32)), .val (.ref b57), .unset, .unset, .unset, .unset, .unset, .unset] [(.int (1 : Int32))])
    refine Win.st ?_ (fun tq kq => XS.iconst X70.here hx rfl (hb hby at_52) kq)
    show Win p e below _ T70 (mkF mt 53 #[.val (.long a0_), .second, .val (.long b0_), .second, .val (.long c0_), .second, .val (.int n_), .val (.long xx), .second, .val (.long yy), .second, .val (.long zz), .second, .val (.int (1 : Int32)), .val (.ref b57), .unset, .unset, .unset, .unset, .unset, .unset] [(.int (2 : Int32)), (.int (1 : Int32))])
    refine Win.st ?_ (fun tq kq => XS.icmpYes X70.here hx rfl (pc0 := 53) (pc' := 63) rfl (hb hby at_53) rfl (tlt (by decide : (1 : Int32) < (2 : Int32))).1 (by decide) (by decide) kq)
    show Win p e below _ T70 (mkF mt 63 #[.val (.long a0_), .second, .val (.long b0_), .second, .val (.long c0_), .second, .val (.int n_), .val (.long xx), .second, .val (.long yy), .second, .val (.long zz), .second, .val (.int (1 : Int32)), .val (.ref b57), .unset, .unset, .unset, .unset, .unset, .unset] [])
    refine Win.st ?_ (fun tq kq => XS.iload X70.here hx rfl (hb hby at_63) rfl kq)
    show Win p e below _ T70 (mkF mt 65 #[.val (.long a0_), .second, .val (.long b0_), .second, .val (.long c0_), .second, .val (.int n_), .val (.long xx), .second, .val (.long yy), .second, .val (.long zz), .second, .val (.int (1 : Int32)), .val (.ref b57), .unset, .unset, .unset, .unset, .unset, .unset] [(.int (1 : Int32))])
    refine Win.st ?_ (fun tq kq => XS.iconst X70.here hx rfl (hb hby at_65) kq)
    show Win p e below _ T70 (mkF mt 66 #[.val (.long a0_), .second, .val (.long b0_), .second, .val (.long c0_), .second, .val (.int n_), .val (.long xx), .second, .val (.long yy), .second, .val (.long zz), .second, .val (.int (1 : Int32)), .val (.ref b57), .unset, .unset, .unset, .unset, .unset, .unset] [(.int (3 : Int32)), (.int (1 : Int32))])
    refine Win.st ?_ (fun tq kq => XS.icmpYes X70.here hx rfl (pc0 := 66) (pc' := 76) rfl (hb hby at_66) rfl (tlt (by decide : (1 : Int32) < (3 : Int32))).1 (by decide) (by decide) kq)
    show Win p e below _ T70 (mkF mt 76 #[.val (.long a0_), .second, .val (.long b0_), .second, .val (.long c0_), .second, .val (.int n_), .val (.long xx), .second, .val (.long yy), .second, .val (.long zz), .second, .val (.int (1 : Int32)), .val (.ref b57), .unset, .unset, .unset, .unset, .unset, .unset] [])
    refine Win.st ?_ (fun tq kq => XS.lconst X70.here hx rfl (hb hby at_76) kq)
    show Win p e below _ T70 (mkF mt 77 #[.val (.long a0_), .second, .val (.long b0_), .second, .val (.long c0_), .second, .val (.int n_), .val (.long xx), .second, .val (.long yy), .second, .val (.long zz), .second, .val (.int (1 : Int32)), .val (.ref b57), .unset, .unset, .unset, .unset, .unset, .unset] [(.long (0 : Int64))])
    refine Win.st ?_ (fun tq kq => XS.lstore X70.here hx rfl (hb hby at_77) rfl (l' := #[.val (.long a0_), .second, .val (.long b0_), .second, .val (.long c0_), .second, .val (.int n_), .val (.long xx), .second, .val (.long yy), .second, .val (.long zz), .second, .val (.int (1 : Int32)), .val (.ref b57), .val (.long (0 : Int64)), .second, .unset, .unset, .unset, .unset]) rfl kq)
    show Win p e below _ T70 (mkF mt 79 #[.val (.long a0_), .second, .val (.long b0_), .second, .val (.long c0_), .second, .val (.int n_), .val (.long xx), .second, .val (.long yy), .second, .val (.long zz), .second, .val (.int (1 : Int32)), .val (.ref b57), .val (.long (0 : Int64)), .second, .unset, .unset, .unset, .unset] [])
    refine Win.st ?_ (fun tq kq => XS.lconst X70.here hx rfl (hb hby at_79) kq)
    show Win p e below _ T70 (mkF mt 80 #[.val (.long a0_), .second, .val (.long b0_), .second, .val (.long c0_), .second, .val (.int n_), .val (.long xx), .second, .val (.long yy), .second, .val (.long zz), .second, .val (.int (1 : Int32)), .val (.ref b57), .val (.long (0 : Int64)), .second, .unset, .unset, .unset, .unset] [(.long (0 : Int64))])
    refine Win.st ?_ (fun tq kq => XS.lstore X70.here hx rfl (hb hby at_80) rfl (l' := #[.val (.long a0_), .second, .val (.long b0_), .second, .val (.long c0_), .second, .val (.int n_), .val (.long xx), .second, .val (.long yy), .second, .val (.long zz), .second, .val (.int (1 : Int32)), .val (.ref b57), .val (.long (0 : Int64)), .second, .val (.long (0 : Int64)), .second, .unset, .unset]) rfl kq)
    show Win p e below _ T70 (mkF mt 82 #[.val (.long a0_), .second, .val (.long b0_), .second, .val (.long c0_), .second, .val (.int n_), .val (.long xx), .second, .val (.long yy), .second, .val (.long zz), .second, .val (.int (1 : Int32)), .val (.ref b57), .val (.long (0 : Int64)), .second, .val (.long (0 : Int64)), .second, .unset, .unset] [])
    refine Win.st ?_ (fun tq kq => XS.iload X70.here hx rfl (hb hby at_82) rfl kq)
    show Win p e below _ T70 (mkF mt 84 #[.val (.long a0_), .second, .val (.long b0_), .second, .val (.long c0_), .second, .val (.int n_), .val (.long xx), .second, .val (.long yy), .second, .val (.long zz), .second, .val (.int (1 : Int32)), .val (.ref b57), .val (.long (0 : Int64)), .second, .val (.long (0 : Int64)), .second, .unset, .unset] [(.int (1 : Int32))])
    refine Win.st ?_ (fun tq kq => XS.iconst X70.here hx rfl (hb hby at_84) kq)
    show Win p e below _ T70 (mkF mt 85 #[.val (.long a0_), .second, .val (.long b0_), .second, .val (.long c0_), .second, .val (.int n_), .val (.long xx), .second, .val (.long yy), .second, .val (.long zz), .second, .val (.int (1 : Int32)), .val (.ref b57), .val (.long (0 : Int64)), .second, .val (.long (0 : Int64)), .second, .unset, .unset] [(.int (1 : Int32)), (.int (1 : Int32))])
    refine Win.st ?_ (fun tq kq => XS.icmpNo X70.here hx rfl (hb hby at_85) rfl (flt (Int32.lt_irrefl)).1 kq)
    show Win p e below _ T70 (mkF mt 88 #[.val (.long a0_), .second, .val (.long b0_), .second, .val (.long c0_), .second, .val (.int n_), .val (.long xx), .second, .val (.long yy), .second, .val (.long zz), .second, .val (.int (1 : Int32)), .val (.ref b57), .val (.long (0 : Int64)), .second, .val (.long (0 : Int64)), .second, .unset, .unset] [])
    refine Win.st ?_ (fun tq kq => XS.lload X70.here hx rfl (hb hby at_88) rfl kq)
    show Win p e below _ T70 (mkF mt 90 #[.val (.long a0_), .second, .val (.long b0_), .second, .val (.long c0_), .second, .val (.int n_), .val (.long xx), .second, .val (.long yy), .second, .val (.long zz), .second, .val (.int (1 : Int32)), .val (.ref b57), .val (.long (0 : Int64)), .second, .val (.long (0 : Int64)), .second, .unset, .unset] [(.long (0 : Int64))])
    refine Win.st ?_ (fun tq kq => XS.lload X70.here hx rfl (hb hby at_90) rfl kq)
    show Win p e below _ T70 (mkF mt 92 #[.val (.long a0_), .second, .val (.long b0_), .second, .val (.long c0_), .second, .val (.int n_), .val (.long xx), .second, .val (.long yy), .second, .val (.long zz), .second, .val (.int (1 : Int32)), .val (.ref b57), .val (.long (0 : Int64)), .second, .val (.long (0 : Int64)), .second, .unset, .unset] [(.long xx), (.long (0 : Int64))])
    refine Win.st ?_ (fun tq kq => XS.ladd X70.here hx rfl (hb hby at_92) rfl kq)
    show Win p e below _ T70 (mkF mt 93 #[.val (.long a0_), .second, .val (.long b0_), .second, .val (.long c0_), .second, .val (.int n_), .val (.long xx), .second, .val (.long yy), .second, .val (.long zz), .second, .val (.int (1 : Int32)), .val (.ref b57), .val (.long (0 : Int64)), .second, .val (.long (0 : Int64)), .second, .unset, .unset] [(.long ((0 : Int64) + xx))])
    refine Win.st ?_ (fun tq kq => XS.lstore X70.here hx rfl (hb hby at_93) rfl (l' := #[.val (.long a0_), .second, .val (.long b0_), .second, .val (.long c0_), .second, .val (.int n_), .val (.long xx), .second, .val (.long yy), .second, .val (.long zz), .second, .val (.int (1 : Int32)), .val (.ref b57), .val (.long ((0 : Int64) + xx)), .second, .val (.long (0 : Int64)), .second, .unset, .unset]) rfl kq)
    show Win p e below _ T70 (mkF mt 95 #[.val (.long a0_), .second, .val (.long b0_), .second, .val (.long c0_), .second, .val (.int n_), .val (.long xx), .second, .val (.long yy), .second, .val (.long zz), .second, .val (.int (1 : Int32)), .val (.ref b57), .val (.long ((0 : Int64) + xx)), .second, .val (.long (0 : Int64)), .second, .unset, .unset] [])
    refine Win.st ?_ (fun tq kq => XS.lload X70.here hx rfl (hb hby at_95) rfl kq)
    show Win p e below _ T70 (mkF mt 97 #[.val (.long a0_), .second, .val (.long b0_), .second, .val (.long c0_), .second, .val (.int n_), .val (.long xx), .second, .val (.long yy), .second, .val (.long zz), .second, .val (.int (1 : Int32)), .val (.ref b57), .val (.long ((0 : Int64) + xx)), .second, .val (.long (0 : Int64)), .second, .unset, .unset] [(.long xx)])
    refine Win.st ?_ (fun tq kq => XS.lstore X70.here hx rfl (hb hby at_97) rfl (l' := #[.val (.long a0_), .second, .val (.long b0_), .second, .val (.long c0_), .second, .val (.int n_), .val (.long xx), .second, .val (.long yy), .second, .val (.long zz), .second, .val (.int (1 : Int32)), .val (.ref b57), .val (.long ((0 : Int64) + xx)), .second, .val (.long xx), .second, .unset, .unset]) rfl kq)
    show Win p e below _ T70 (mkF mt 99 #[.val (.long a0_), .second, .val (.long b0_), .second, .val (.long c0_), .second, .val (.int n_), .val (.long xx), .second, .val (.long yy), .second, .val (.long zz), .second, .val (.int (1 : Int32)), .val (.ref b57), .val (.long ((0 : Int64) + xx)), .second, .val (.long xx), .second, .unset, .unset] [])
    refine Win.st ?_ (fun tq kq => XS.iload X70.here hx rfl (hb hby at_99) rfl kq)
    show Win p e below _ T70 (mkF mt 101 #[.val (.long a0_), .second, .val (.long b0_), .second, .val (.long c0_), .second, .val (.int n_), .val (.long xx), .second, .val (.long yy), .second, .val (.long zz), .second, .val (.int (1 : Int32)), .val (.ref b57), .val (.long ((0 : Int64) + xx)), .second, .val (.long xx), .second, .unset, .unset] [(.int (1 : Int32))])
    refine Win.st ?_ (fun tq kq => XS.iconst X70.here hx rfl (hb hby at_101) kq)
    show Win p e below _ T70 (mkF mt 102 #[.val (.long a0_), .second, .val (.long b0_), .second, .val (.long c0_), .second, .val (.int n_), .val (.long xx), .second, .val (.long yy), .second, .val (.long zz), .second, .val (.int (1 : Int32)), .val (.ref b57), .val (.long ((0 : Int64) + xx)), .second, .val (.long xx), .second, .unset, .unset] [(.int (2 : Int32)), (.int (1 : Int32))])
    refine Win.st ?_ (fun tq kq => XS.icmpYes X70.here hx rfl (pc0 := 102) (pc' := 124) rfl (hb hby at_102) rfl (tlt (by decide : (1 : Int32) < (2 : Int32))).1 (by decide) (by decide) kq)
    show Win p e below _ T70 (mkF mt 124 #[.val (.long a0_), .second, .val (.long b0_), .second, .val (.long c0_), .second, .val (.int n_), .val (.long xx), .second, .val (.long yy), .second, .val (.long zz), .second, .val (.int (1 : Int32)), .val (.ref b57), .val (.long ((0 : Int64) + xx)), .second, .val (.long xx), .second, .unset, .unset] [])
    refine Win.st ?_ (fun tq kq => XS.iload X70.here hx rfl (hb hby at_124) rfl kq)
    show Win p e below _ T70 (mkF mt 126 #[.val (.long a0_), .second, .val (.long b0_), .second, .val (.long c0_), .second, .val (.int n_), .val (.long xx), .second, .val (.long yy), .second, .val (.long zz), .second, .val (.int (1 : Int32)), .val (.ref b57), .val (.long ((0 : Int64) + xx)), .second, .val (.long xx), .second, .unset, .unset] [(.int (1 : Int32))])
    refine Win.st ?_ (fun tq kq => XS.iconst X70.here hx rfl (hb hby at_126) kq)
    show Win p e below _ T70 (mkF mt 127 #[.val (.long a0_), .second, .val (.long b0_), .second, .val (.long c0_), .second, .val (.int n_), .val (.long xx), .second, .val (.long yy), .second, .val (.long zz), .second, .val (.int (1 : Int32)), .val (.ref b57), .val (.long ((0 : Int64) + xx)), .second, .val (.long xx), .second, .unset, .unset] [(.int (3 : Int32)), (.int (1 : Int32))])
    refine Win.st ?_ (fun tq kq => XS.icmpYes X70.here hx rfl (pc0 := 127) (pc' := 149) rfl (hb hby at_127) rfl (tlt (by decide : (1 : Int32) < (3 : Int32))).1 (by decide) (by decide) kq)
    show Win p e below _ T70 (mkF mt 149 #[.val (.long a0_), .second, .val (.long b0_), .second, .val (.long c0_), .second, .val (.int n_), .val (.long xx), .second, .val (.long yy), .second, .val (.long zz), .second, .val (.int (1 : Int32)), .val (.ref b57), .val (.long ((0 : Int64) + xx)), .second, .val (.long xx), .second, .unset, .unset] [])
    refine Win.st ?_ (fun tq kq => XS.iload X70.here hx rfl (hb hby at_149) rfl kq)
    show Win p e below _ T70 (mkF mt 151 #[.val (.long a0_), .second, .val (.long b0_), .second, .val (.long c0_), .second, .val (.int n_), .val (.long xx), .second, .val (.long yy), .second, .val (.long zz), .second, .val (.int (1 : Int32)), .val (.ref b57), .val (.long ((0 : Int64) + xx)), .second, .val (.long xx), .second, .unset, .unset] [(.int (1 : Int32))])
    refine Win.st ?_ (fun tq kq => XS.ifYes X70.here hx rfl (pc0 := 151) (pc' := 158) rfl (hb hby at_151) rfl ((if0 _ _).trans (feq (by decide : ¬ ((1 : Int32) = (0 : Int32)))).2) (by decide) (by decide) kq)
    show Win p e below _ T70 (mkF mt 158 #[.val (.long a0_), .second, .val (.long b0_), .second, .val (.long c0_), .second, .val (.int n_), .val (.long xx), .second, .val (.long yy), .second, .val (.long zz), .second, .val (.int (1 : Int32)), .val (.ref b57), .val (.long ((0 : Int64) + xx)), .second, .val (.long xx), .second, .unset, .unset] [])
    refine Win.st ?_ (fun tq kq => XS.lload X70.here hx rfl (hb hby at_158) rfl kq)
    show Win p e below _ T70 (mkF mt 160 #[.val (.long a0_), .second, .val (.long b0_), .second, .val (.long c0_), .second, .val (.int n_), .val (.long xx), .second, .val (.long yy), .second, .val (.long zz), .second, .val (.int (1 : Int32)), .val (.ref b57), .val (.long ((0 : Int64) + xx)), .second, .val (.long xx), .second, .unset, .unset] [(.long ((0 : Int64) + xx))])
    refine Win.st ?_ (fun tq kq => XS.iload X70.here hx rfl (hb hby at_160) rfl kq)
    show Win p e below _ T70 (mkF mt 162 #[.val (.long a0_), .second, .val (.long b0_), .second, .val (.long c0_), .second, .val (.int n_), .val (.long xx), .second, .val (.long yy), .second, .val (.long zz), .second, .val (.int (1 : Int32)), .val (.ref b57), .val (.long ((0 : Int64) + xx)), .second, .val (.long xx), .second, .unset, .unset] [(.int (1 : Int32)), (.long ((0 : Int64) + xx))])
    refine Win.st ?_ (fun tq kq => XS.i2l X70.here hx rfl (hb hby at_162) rfl kq)
    show Win p e below _ T70 (mkF mt 163 #[.val (.long a0_), .second, .val (.long b0_), .second, .val (.long c0_), .second, .val (.int n_), .val (.long xx), .second, .val (.long yy), .second, .val (.long zz), .second, .val (.int (1 : Int32)), .val (.ref b57), .val (.long ((0 : Int64) + xx)), .second, .val (.long xx), .second, .unset, .unset] [(.long ((1 : Int32).toInt64)), (.long ((0 : Int64) + xx))])
    refine Win.st ?_ (fun tq kq => XS.ldiv X70.here hx rfl (hb hby at_163) rfl (by decide) kq)
    show Win p e below _ T70 (mkF mt 164 #[.val (.long a0_), .second, .val (.long b0_), .second, .val (.long c0_), .second, .val (.int n_), .val (.long xx), .second, .val (.long yy), .second, .val (.long zz), .second, .val (.int (1 : Int32)), .val (.ref b57), .val (.long ((0 : Int64) + xx)), .second, .val (.long xx), .second, .unset, .unset] [(.long (((0 : Int64) + xx) / ((1 : Int32).toInt64)))])
    refine Win.st ?_ (fun tq kq => XS.lstore X70.here hx rfl (hb hby at_164) rfl (l' := #[.val (.long a0_), .second, .val (.long b0_), .second, .val (.long c0_), .second, .val (.int n_), .val (.long xx), .second, .val (.long yy), .second, .val (.long zz), .second, .val (.int (1 : Int32)), .val (.ref b57), .val (.long ((0 : Int64) + xx)), .second, .val (.long xx), .second, .val (.long (((0 : Int64) + xx) / ((1 : Int32).toInt64))), .second]) rfl kq)
    show Win p e below _ T70 (mkF mt 166 #[.val (.long a0_), .second, .val (.long b0_), .second, .val (.long c0_), .second, .val (.int n_), .val (.long xx), .second, .val (.long yy), .second, .val (.long zz), .second, .val (.int (1 : Int32)), .val (.ref b57), .val (.long ((0 : Int64) + xx)), .second, .val (.long xx), .second, .val (.long (((0 : Int64) + xx) / ((1 : Int32).toInt64))), .second] [])
    refine Win.st ?_ (fun tq kq => XS.aload X70.here hx rfl (hb hby at_166) rfl rfl kq)
    show Win p e below _ T70 (mkF mt 168 #[.val (.long a0_), .second, .val (.long b0_), .second, .val (.long c0_), .second, .val (.int n_), .val (.long xx), .second, .val (.long yy), .second, .val (.long zz), .second, .val (.int (1 : Int32)), .val (.ref b57), .val (.long ((0 : Int64) + xx)), .second, .val (.long xx), .second, .val (.long (((0 : Int64) + xx) / ((1 : Int32).toInt64))), .second] [(.ref b57)])
    obtain ⟨cq73, kq73, q73a, q73b, q73c⟩ := isOf hZ e70 f71_283
    obtain ⟨v73, _, ⟨T73, L73, k73, n73⟩, -, X73, ⟨Lc73, hQ73, l73, y73, z73⟩, st73⟩ := X70.virtualBack hx (y := (⟨"com/example/interleave/interleave/Tally", "committed", "()J"⟩ : MethodName)) (z := (⟨"com/example/interleave/interleave/Tally", "committed", "()J"⟩ : MethodName)) hown (mvT hZ (hw _ (List.mem_of_getElem? (i := 43) rfl))) (mvT hZ (hw _ (List.mem_of_getElem? (i := 44) rfl))) (notFace_of_selects (args := #[]) (mvT hZ (hw _ (List.mem_of_getElem? (i := 46) rfl)))) (mvT hZ (hw _ (List.mem_of_getElem? (i := 46) rfl))) (mvT hZ (hw _ (List.mem_of_getElem? (i := 45) rfl))) (by decide) (backOf (W := 0) (rm_gcommitted l Z a0 hw [] b57 ((0 : Int64) + (1 : Int64)) h70 n0 Z72 t70_cm) hZ (hw _ (List.mem_of_getElem? (i := 47) rfl)) (hw _ (List.mem_of_getElem? (i := 3) rfl)) (by decide) (by decide)) q73a q73c (g := (mkF mt 168 #[.val (.long a0_), .second, .val (.long b0_), .second, .val (.long c0_), .second, .val (.int n_), .val (.long xx), .second, .val (.long yy), .second, .val (.long zz), .second, .val (.int (1 : Int32)), .val (.ref b57), .val (.long ((0 : Int64) + xx)), .second, .val (.long xx), .second, .val (.long (((0 : Int64) + xx) / ((1 : Int32).toInt64))), .second] [(.ref b57)])) rfl (by rw [hml]; rfl) (Steps.refl _) (argsL := []) (rest := []) (lenOf pd_2 rfl) rfl (by show 2 * 0 + _ ≤ _; exact Nat.le_of_eq rfl) (hb hby at_168) (fun _ _ => ⟨rfl, e70, (by decide : 2 + 0 ≤ _), (by decide : 15 + 0 ≤ _)⟩)
    dsimp only [Pt.U, Pt.locs, Pt.cells, Pt.slots] at X73 l73 y73 z73 st73 hQ73
    subst y73 z73
    replace X73 : Stand p l e _ s mt args below meth cd T73 L73 2 15 := X73
    obtain ⟨h73, e73⟩ : ∃ z, T73.heap = z := ⟨_, rfl⟩
    rw [e73] at hQ73
    obtain ⟨rfl, Nq73, eh73⟩ := hQ73
    have N73 : Fr n0 L73 := by rw [l73]; exact Fr.app N70 Nq73
    rw [eh73] at e73
    refine Win.tr ?_ st73
    show Win p e below _ T73 (mkF mt 171 #[.val (.long a0_), .second, .val (.long b0_), .second, .val (.long c0_), .second, .val (.int n_), .val (.long xx), .second, .val (.long yy), .second, .val (.long zz), .second, .val (.int (1 : Int32)), .val (.ref b57), .val (.long ((0 : Int64) + xx)), .second, .val (.long xx), .second, .val (.long (((0 : Int64) + xx) / ((1 : Int32).toInt64))), .second] [(.long ((0 : Int64) + (1 : Int64)))])
    refine Win.st ?_ (fun tq kq => XS.iload X73.here hx rfl (hb hby at_171) rfl kq)
    show Win p e below _ T73 (mkF mt 173 #[.val (.long a0_), .second, .val (.long b0_), .second, .val (.long c0_), .second, .val (.int n_), .val (.long xx), .second, .val (.long yy), .second, .val (.long zz), .second, .val (.int (1 : Int32)), .val (.ref b57), .val (.long ((0 : Int64) + xx)), .second, .val (.long xx), .second, .val (.long (((0 : Int64) + xx) / ((1 : Int32).toInt64))), .second] [(.int (1 : Int32)), (.long ((0 : Int64) + (1 : Int64)))])
    refine Win.st ?_ (fun tq kq => XS.i2l X73.here hx rfl (hb hby at_173) rfl kq)
    show Win p e below _ T73 (mkF mt 174 #[.val (.long a0_), .second, .val (.long b0_), .second, .val (.long c0_), .second, .val (.int n_), .val (.long xx), .second, .val (.long yy), .second, .val (.long zz), .second, .val (.int (1 : Int32)), .val (.ref b57), .val (.long ((0 : Int64) + xx)), .second, .val (.long xx), .second, .val (.long (((0 : Int64) + xx) / ((1 : Int32).toInt64))), .second] [(.long ((1 : Int32).toInt64)), (.long ((0 : Int64) + (1 : Int64)))])
    refine Win.st ?_ (fun tq kq => XS.lcmp X73.here hx rfl (hb hby at_174) rfl kq)
    show Win p e below _ T73 (mkF mt 175 #[.val (.long a0_), .second, .val (.long b0_), .second, .val (.long c0_), .second, .val (.int n_), .val (.long xx), .second, .val (.long yy), .second, .val (.long zz), .second, .val (.int (1 : Int32)), .val (.ref b57), .val (.long ((0 : Int64) + xx)), .second, .val (.long xx), .second, .val (.long (((0 : Int64) + xx) / ((1 : Int32).toInt64))), .second] [(.int (lcmpW ((0 : Int64) + (1 : Int64)) ((1 : Int32).toInt64)))])
    refine Win.st ?_ (fun tq kq => XS.ifNo X73.here hx rfl (hb hby at_175) rfl ((if0 _ _).trans (teq ((lw_eq _ _).mpr (by decide))).2) kq)
    show Win p e below _ T73 (mkF mt 178 #[.val (.long a0_), .second, .val (.long b0_), .second, .val (.long c0_), .second, .val (.int n_), .val (.long xx), .second, .val (.long yy), .second, .val (.long zz), .second, .val (.int (1 : Int32)), .val (.ref b57), .val (.long ((0 : Int64) + xx)), .second, .val (.long xx), .second, .val (.long (((0 : Int64) + xx) / ((1 : Int32).toInt64))), .second] [])
    refine Win.st ?_ (fun tq kq => XS.aload X73.here hx rfl (hb hby at_178) rfl rfl kq)
    show Win p e below _ T73 (mkF mt 180 #[.val (.long a0_), .second, .val (.long b0_), .second, .val (.long c0_), .second, .val (.int n_), .val (.long xx), .second, .val (.long yy), .second, .val (.long zz), .second, .val (.int (1 : Int32)), .val (.ref b57), .val (.long ((0 : Int64) + xx)), .second, .val (.long xx), .second, .val (.long (((0 : Int64) + xx) / ((1 : Int32).toInt64))), .second] [(.ref b57)])
    obtain ⟨cq74, kq74, q74a, q74b, q74c⟩ := isOf hZ e73 f71_283
    obtain ⟨v74, _, ⟨T74, L74, k74, n74⟩, -, X74, ⟨Lc74, hQ74, l74, y74, z74⟩, st74⟩ := X73.virtualBack hx (y := (⟨"com/example/interleave/interleave/Tally", "averageNanos", "()J"⟩ : MethodName)) (z := (⟨"com/example/interleave/interleave/Tally", "averageNanos", "()J"⟩ : MethodName)) hown (mvT hZ (hw _ (List.mem_of_getElem? (i := 48) rfl))) (mvT hZ (hw _ (List.mem_of_getElem? (i := 49) rfl))) (notFace_of_selects (args := #[]) (mvT hZ (hw _ (List.mem_of_getElem? (i := 51) rfl)))) (mvT hZ (hw _ (List.mem_of_getElem? (i := 51) rfl))) (mvT hZ (hw _ (List.mem_of_getElem? (i := 50) rfl))) (by decide) (backOf (W := 0) (rm_tavg l Z a0 hw [] b57 ((0 : Int64) + (1 : Int64)) ((0 : Int64) + xx) h70 n0 Z72 t70_cm t70_nn) hZ (hw _ (List.mem_of_getElem? (i := 52) rfl)) (hw _ (List.mem_of_getElem? (i := 3) rfl)) (by decide) (by decide)) q74a q74c (g := (mkF mt 180 #[.val (.long a0_), .second, .val (.long b0_), .second, .val (.long c0_), .second, .val (.int n_), .val (.long xx), .second, .val (.long yy), .second, .val (.long zz), .second, .val (.int (1 : Int32)), .val (.ref b57), .val (.long ((0 : Int64) + xx)), .second, .val (.long xx), .second, .val (.long (((0 : Int64) + xx) / ((1 : Int32).toInt64))), .second] [(.ref b57)])) rfl (by rw [hml]; rfl) (Steps.refl _) (argsL := []) (rest := []) (lenOf pd_2 rfl) rfl (by show 2 * 0 + _ ≤ _; exact Nat.le_of_eq rfl) (hb hby at_180) (fun _ _ => ⟨rfl, e73, (by decide : 2 + 0 ≤ _), (by decide : 15 + 0 ≤ _)⟩)
    dsimp only [Pt.U, Pt.locs, Pt.cells, Pt.slots] at X74 l74 y74 z74 st74 hQ74
    subst y74 z74
    replace X74 : Stand p l e _ s mt args below meth cd T74 L74 2 15 := X74
    obtain ⟨h74, e74⟩ : ∃ z, T74.heap = z := ⟨_, rfl⟩
    rw [e74] at hQ74
    obtain ⟨rfl, Nq74, eh74⟩ := hQ74
    have N74 : Fr n0 L74 := by rw [l74]; exact Fr.app N73 Nq74
    rw [eh74] at e74
    refine Win.tr ?_ st74
    show Win p e below _ T74 (mkF mt 183 #[.val (.long a0_), .second, .val (.long b0_), .second, .val (.long c0_), .second, .val (.int n_), .val (.long xx), .second, .val (.long yy), .second, .val (.long zz), .second, .val (.int (1 : Int32)), .val (.ref b57), .val (.long ((0 : Int64) + xx)), .second, .val (.long xx), .second, .val (.long (((0 : Int64) + xx) / ((1 : Int32).toInt64))), .second] [(.long (own_avg ((0 : Int64) + (1 : Int64)) ((0 : Int64) + xx)))])
    refine Win.st ?_ (fun tq kq => XS.lload X74.here hx rfl (hb hby at_183) rfl kq)
    show Win p e below _ T74 (mkF mt 185 #[.val (.long a0_), .second, .val (.long b0_), .second, .val (.long c0_), .second, .val (.int n_), .val (.long xx), .second, .val (.long yy), .second, .val (.long zz), .second, .val (.int (1 : Int32)), .val (.ref b57), .val (.long ((0 : Int64) + xx)), .second, .val (.long xx), .second, .val (.long (((0 : Int64) + xx) / ((1 : Int32).toInt64))), .second] [(.long (((0 : Int64) + xx) / ((1 : Int32).toInt64))), (.long (own_avg ((0 : Int64) + (1 : Int64)) ((0 : Int64) + xx)))])
    refine Win.st ?_ (fun tq kq => XS.lcmp X74.here hx rfl (hb hby at_185) rfl kq)
    show Win p e below _ T74 (mkF mt 186 #[.val (.long a0_), .second, .val (.long b0_), .second, .val (.long c0_), .second, .val (.int n_), .val (.long xx), .second, .val (.long yy), .second, .val (.long zz), .second, .val (.int (1 : Int32)), .val (.ref b57), .val (.long ((0 : Int64) + xx)), .second, .val (.long xx), .second, .val (.long (((0 : Int64) + xx) / ((1 : Int32).toInt64))), .second] [(.int (lcmpW (own_avg ((0 : Int64) + (1 : Int64)) ((0 : Int64) + xx)) (((0 : Int64) + xx) / ((1 : Int32).toInt64))))])
    refine Win.st ?_ (fun tq kq => XS.ifNo X74.here hx rfl (hb hby at_186) rfl ((if0 _ _).trans (teq ((lw_eq _ _).mpr (own_avgd _ _ ((1 : Int32).toInt64) (by decide) (by decide)))).2) kq)
    show Win p e below _ T74 (mkF mt 189 #[.val (.long a0_), .second, .val (.long b0_), .second, .val (.long c0_), .second, .val (.int n_), .val (.long xx), .second, .val (.long yy), .second, .val (.long zz), .second, .val (.int (1 : Int32)), .val (.ref b57), .val (.long ((0 : Int64) + xx)), .second, .val (.long xx), .second, .val (.long (((0 : Int64) + xx) / ((1 : Int32).toInt64))), .second] [])
    refine Win.st ?_ (fun tq kq => XS.aload X74.here hx rfl (hb hby at_189) rfl rfl kq)
    show Win p e below _ T74 (mkF mt 191 #[.val (.long a0_), .second, .val (.long b0_), .second, .val (.long c0_), .second, .val (.int n_), .val (.long xx), .second, .val (.long yy), .second, .val (.long zz), .second, .val (.int (1 : Int32)), .val (.ref b57), .val (.long ((0 : Int64) + xx)), .second, .val (.long xx), .second, .val (.long (((0 : Int64) + xx) / ((1 : Int32).toInt64))), .second] [(.ref b57)])
    obtain ⟨cq75, kq75, q75a, q75b, q75c⟩ := isOf hZ e74 f71_283
    obtain ⟨v75, _, ⟨T75, L75, k75, n75⟩, -, X75, ⟨Lc75, hQ75, l75, y75, z75⟩, st75⟩ := X74.virtualBack hx (y := (⟨"com/example/interleave/interleave/Tally", "longestNanos", "()J"⟩ : MethodName)) (z := (⟨"com/example/interleave/interleave/Tally", "longestNanos", "()J"⟩ : MethodName)) hown (mvT hZ (hw _ (List.mem_of_getElem? (i := 53) rfl))) (mvT hZ (hw _ (List.mem_of_getElem? (i := 54) rfl))) (notFace_of_selects (args := #[]) (mvT hZ (hw _ (List.mem_of_getElem? (i := 56) rfl)))) (mvT hZ (hw _ (List.mem_of_getElem? (i := 56) rfl))) (mvT hZ (hw _ (List.mem_of_getElem? (i := 55) rfl))) (by decide) (backOf (W := 0) (rm_glongestNanos l Z a0 hw [] b57 (own_maxL (0 : Int64) xx) h70 n0 Z72 t70_lo) hZ (hw _ (List.mem_of_getElem? (i := 57) rfl)) (hw _ (List.mem_of_getElem? (i := 3) rfl)) (by decide) (by decide)) q75a q75c (g := (mkF mt 191 #[.val (.long a0_), .second, .val (.long b0_), .second, .val (.long c0_), .second, .val (.int n_), .val (.long xx), .second, .val (.long yy), .second, .val (.long zz), .second, .val (.int (1 : Int32)), .val (.ref b57), .val (.long ((0 : Int64) + xx)), .second, .val (.long xx), .second, .val (.long (((0 : Int64) + xx) / ((1 : Int32).toInt64))), .second] [(.ref b57)])) rfl (by rw [hml]; rfl) (Steps.refl _) (argsL := []) (rest := []) (lenOf pd_2 rfl) rfl (by show 2 * 0 + _ ≤ _; exact Nat.le_of_eq rfl) (hb hby at_191) (fun _ _ => ⟨rfl, e74, (by decide : 2 + 0 ≤ _), (by decide : 15 + 0 ≤ _)⟩)
    dsimp only [Pt.U, Pt.locs, Pt.cells, Pt.slots] at X75 l75 y75 z75 st75 hQ75
    subst y75 z75
    replace X75 : Stand p l e _ s mt args below meth cd T75 L75 2 15 := X75
    obtain ⟨h75, e75⟩ : ∃ z, T75.heap = z := ⟨_, rfl⟩
    rw [e75] at hQ75
    obtain ⟨rfl, Nq75, eh75⟩ := hQ75
    have N75 : Fr n0 L75 := by rw [l75]; exact Fr.app N74 Nq75
    rw [eh75] at e75
    refine Win.tr ?_ st75
    show Win p e below _ T75 (mkF mt 194 #[.val (.long a0_), .second, .val (.long b0_), .second, .val (.long c0_), .second, .val (.int n_), .val (.long xx), .second, .val (.long yy), .second, .val (.long zz), .second, .val (.int (1 : Int32)), .val (.ref b57), .val (.long ((0 : Int64) + xx)), .second, .val (.long xx), .second, .val (.long (((0 : Int64) + xx) / ((1 : Int32).toInt64))), .second] [(.long (own_maxL (0 : Int64) xx))])
    refine Win.st ?_ (fun tq kq => XS.lload X75.here hx rfl (hb hby at_194) rfl kq)
    show Win p e below _ T75 (mkF mt 196 #[.val (.long a0_), .second, .val (.long b0_), .second, .val (.long c0_), .second, .val (.int n_), .val (.long xx), .second, .val (.long yy), .second, .val (.long zz), .second, .val (.int (1 : Int32)), .val (.ref b57), .val (.long ((0 : Int64) + xx)), .second, .val (.long xx), .second, .val (.long (((0 : Int64) + xx) / ((1 : Int32).toInt64))), .second] [(.long xx), (.long (own_maxL (0 : Int64) xx))])
    refine Win.st ?_ (fun tq kq => XS.lcmp X75.here hx rfl (hb hby at_196) rfl kq)
    show Win p e below _ T75 (mkF mt 197 #[.val (.long a0_), .second, .val (.long b0_), .second, .val (.long c0_), .second, .val (.int n_), .val (.long xx), .second, .val (.long yy), .second, .val (.long zz), .second, .val (.int (1 : Int32)), .val (.ref b57), .val (.long ((0 : Int64) + xx)), .second, .val (.long xx), .second, .val (.long (((0 : Int64) + xx) / ((1 : Int32).toInt64))), .second] [(.int (lcmpW (own_maxL (0 : Int64) xx) xx))])
    refine Win.st ?_ (fun tq kq => XS.ifNo X75.here hx rfl (hb hby at_197) rfl ((if0 _ _).trans (teq ((lw_eq _ _).mpr (own_max0 hpxx))).2) kq)
    show Win p e below _ T75 (mkF mt 200 #[.val (.long a0_), .second, .val (.long b0_), .second, .val (.long c0_), .second, .val (.int n_), .val (.long xx), .second, .val (.long yy), .second, .val (.long zz), .second, .val (.int (1 : Int32)), .val (.ref b57), .val (.long ((0 : Int64) + xx)), .second, .val (.long xx), .second, .val (.long (((0 : Int64) + xx) / ((1 : Int32).toInt64))), .second] [])
    refine Win.st ?_ (fun tq kq => XS.aload X75.here hx rfl (hb hby at_200) rfl rfl kq)
    show Win p e below _ T75 (mkF mt 202 #[.val (.long a0_), .second, .val (.long b0_), .second, .val (.long c0_), .second, .val (.int n_), .val (.long xx), .second, .val (.long yy), .second, .val (.long zz), .second, .val (.int (1 : Int32)), .val (.ref b57), .val (.long ((0 : Int64) + xx)), .second, .val (.long xx), .second, .val (.long (((0 : Int64) + xx) / ((1 : Int32).toInt64))), .second] [(.ref b57)])
    obtain ⟨cq76, kq76, q76a, q76b, q76c⟩ := isOf hZ e75 f71_283
    obtain ⟨v76, _, ⟨T76, L76, k76, n76⟩, -, X76, ⟨Lc76, hQ76, l76, y76, z76⟩, st76⟩ := X75.virtualBack hx (y := (⟨"com/example/interleave/interleave/Tally", "started", "()J"⟩ : MethodName)) (z := (⟨"com/example/interleave/interleave/Tally", "started", "()J"⟩ : MethodName)) hown (mvT hZ (hw _ (List.mem_of_getElem? (i := 58) rfl))) (mvT hZ (hw _ (List.mem_of_getElem? (i := 59) rfl))) (notFace_of_selects (args := #[]) (mvT hZ (hw _ (List.mem_of_getElem? (i := 61) rfl)))) (mvT hZ (hw _ (List.mem_of_getElem? (i := 61) rfl))) (mvT hZ (hw _ (List.mem_of_getElem? (i := 60) rfl))) (by decide) (backOf (W := 0) (rm_gstarted l Z a0 hw [] b57 (0 : Int64) h70 n0 Z72 t70_st) hZ (hw _ (List.mem_of_getElem? (i := 62) rfl)) (hw _ (List.mem_of_getElem? (i := 3) rfl)) (by decide) (by decide)) q76a q76c (g := (mkF mt 202 #[.val (.long a0_), .second, .val (.long b0_), .second, .val (.long c0_), .second, .val (.int n_), .val (.long xx), .second, .val (.long yy), .second, .val (.long zz), .second, .val (.int (1 : Int32)), .val (.ref b57), .val (.long ((0 : Int64) + xx)), .second, .val (.long xx), .second, .val (.long (((0 : Int64) + xx) / ((1 : Int32).toInt64))), .second] [(.ref b57)])) rfl (by rw [hml]; rfl) (Steps.refl _) (argsL := []) (rest := []) (lenOf pd_2 rfl) rfl (by show 2 * 0 + _ ≤ _; exact Nat.le_of_eq rfl) (hb hby at_202) (fun _ _ => ⟨rfl, e75, (by decide : 2 + 0 ≤ _), (by decide : 15 + 0 ≤ _)⟩)
    dsimp only [Pt.U, Pt.locs, Pt.cells, Pt.slots] at X76 l76 y76 z76 st76 hQ76
    subst y76 z76
    replace X76 : Stand p l e _ s mt args below meth cd T76 L76 2 15 := X76
    obtain ⟨h76, e76⟩ : ∃ z, T76.heap = z := ⟨_, rfl⟩
    rw [e76] at hQ76
    obtain ⟨rfl, Nq76, eh76⟩ := hQ76
    have N76 : Fr n0 L76 := by rw [l76]; exact Fr.app N75 Nq76
    rw [eh76] at e76
    refine Win.tr ?_ st76
    show Win p e below _ T76 (mkF mt 205 #[.val (.long a0_), .second, .val (.long b0_), .second, .val (.long c0_), .second, .val (.int n_), .val (.long xx), .second, .val (.long yy), .second, .val (.long zz), .second, .val (.int (1 : Int32)), .val (.ref b57), .val (.long ((0 : Int64) + xx)), .second, .val (.long xx), .second, .val (.long (((0 : Int64) + xx) / ((1 : Int32).toInt64))), .second] [(.long (0 : Int64))])
    refine Win.st ?_ (fun tq kq => XS.lconst X76.here hx rfl (hb hby at_205) kq)
    show Win p e below _ T76 (mkF mt 206 #[.val (.long a0_), .second, .val (.long b0_), .second, .val (.long c0_), .second, .val (.int n_), .val (.long xx), .second, .val (.long yy), .second, .val (.long zz), .second, .val (.int (1 : Int32)), .val (.ref b57), .val (.long ((0 : Int64) + xx)), .second, .val (.long xx), .second, .val (.long (((0 : Int64) + xx) / ((1 : Int32).toInt64))), .second] [(.long (0 : Int64)), (.long (0 : Int64))])
    refine Win.st ?_ (fun tq kq => XS.lcmp X76.here hx rfl (hb hby at_206) rfl kq)
    show Win p e below _ T76 (mkF mt 207 #[.val (.long a0_), .second, .val (.long b0_), .second, .val (.long c0_), .second, .val (.int n_), .val (.long xx), .second, .val (.long yy), .second, .val (.long zz), .second, .val (.int (1 : Int32)), .val (.ref b57), .val (.long ((0 : Int64) + xx)), .second, .val (.long xx), .second, .val (.long (((0 : Int64) + xx) / ((1 : Int32).toInt64))), .second] [(.int (lcmpW (0 : Int64) (0 : Int64)))])
    refine Win.st ?_ (fun tq kq => XS.ifNo X76.here hx rfl (hb hby at_207) rfl ((if0 _ _).trans (teq ((lw_eq _ _).mpr rfl)).2) kq)
    show Win p e below _ T76 (mkF mt 210 #[.val (.long a0_), .second, .val (.long b0_), .second, .val (.long c0_), .second, .val (.int n_), .val (.long xx), .second, .val (.long yy), .second, .val (.long zz), .second, .val (.int (1 : Int32)), .val (.ref b57), .val (.long ((0 : Int64) + xx)), .second, .val (.long xx), .second, .val (.long (((0 : Int64) + xx) / ((1 : Int32).toInt64))), .second] [])
    refine Win.st ?_ (fun tq kq => XS.aload X76.here hx rfl (hb hby at_210) rfl rfl kq)
    show Win p e below _ T76 (mkF mt 212 #[.val (.long a0_), .second, .val (.long b0_), .second, .val (.long c0_), .second, .val (.int n_), .val (.long xx), .second, .val (.long yy), .second, .val (.long zz), .second, .val (.int (1 : Int32)), .val (.ref b57), .val (.long ((0 : Int64) + xx)), .second, .val (.long xx), .second, .val (.long (((0 : Int64) + xx) / ((1 : Int32).toInt64))), .second] [(.ref b57)])
    obtain ⟨cq77, kq77, q77a, q77b, q77c⟩ := isOf hZ e76 f71_283
    obtain ⟨v77, _, ⟨T77, L77, k77, n77⟩, -, X77, ⟨Lc77, hQ77, l77, y77, z77⟩, st77⟩ := X76.virtualBack hx (y := (⟨"com/example/interleave/interleave/Tally", "failed", "()J"⟩ : MethodName)) (z := (⟨"com/example/interleave/interleave/Tally", "failed", "()J"⟩ : MethodName)) hown (mvT hZ (hw _ (List.mem_of_getElem? (i := 65) rfl))) (mvT hZ (hw _ (List.mem_of_getElem? (i := 66) rfl))) (notFace_of_selects (args := #[]) (mvT hZ (hw _ (List.mem_of_getElem? (i := 68) rfl)))) (mvT hZ (hw _ (List.mem_of_getElem? (i := 68) rfl))) (mvT hZ (hw _ (List.mem_of_getElem? (i := 67) rfl))) (by decide) (backOf (W := 0) (rm_gfailed l Z a0 hw [] b57 (0 : Int64) h70 n0 Z72 t70_fa) hZ (hw _ (List.mem_of_getElem? (i := 69) rfl)) (hw _ (List.mem_of_getElem? (i := 3) rfl)) (by decide) (by decide)) q77a q77c (g := (mkF mt 212 #[.val (.long a0_), .second, .val (.long b0_), .second, .val (.long c0_), .second, .val (.int n_), .val (.long xx), .second, .val (.long yy), .second, .val (.long zz), .second, .val (.int (1 : Int32)), .val (.ref b57), .val (.long ((0 : Int64) + xx)), .second, .val (.long xx), .second, .val (.long (((0 : Int64) + xx) / ((1 : Int32).toInt64))), .second] [(.ref b57)])) rfl (by rw [hml]; rfl) (Steps.refl _) (argsL := []) (rest := []) (lenOf pd_2 rfl) rfl (by show 2 * 0 + _ ≤ _; exact Nat.le_of_eq rfl) (hb hby at_212) (fun _ _ => ⟨rfl, e76, (by decide : 2 + 0 ≤ _), (by decide : 15 + 0 ≤ _)⟩)
    dsimp only [Pt.U, Pt.locs, Pt.cells, Pt.slots] at X77 l77 y77 z77 st77 hQ77
    subst y77 z77
    replace X77 : Stand p l e _ s mt args below meth cd T77 L77 2 15 := X77
    obtain ⟨h77, e77⟩ : ∃ z, T77.heap = z := ⟨_, rfl⟩
    rw [e77] at hQ77
    obtain ⟨rfl, Nq77, eh77⟩ := hQ77
    have N77 : Fr n0 L77 := by rw [l77]; exact Fr.app N76 Nq77
    rw [eh77] at e77
    refine Win.tr ?_ st77
    show Win p e below _ T77 (mkF mt 215 #[.val (.long a0_), .second, .val (.long b0_), .second, .val (.long c0_), .second, .val (.int n_), .val (.long xx), .second, .val (.long yy), .second, .val (.long zz), .second, .val (.int (1 : Int32)), .val (.ref b57), .val (.long ((0 : Int64) + xx)), .second, .val (.long xx), .second, .val (.long (((0 : Int64) + xx) / ((1 : Int32).toInt64))), .second] [(.long (0 : Int64))])
    refine Win.st ?_ (fun tq kq => XS.lconst X77.here hx rfl (hb hby at_215) kq)
    show Win p e below _ T77 (mkF mt 216 #[.val (.long a0_), .second, .val (.long b0_), .second, .val (.long c0_), .second, .val (.int n_), .val (.long xx), .second, .val (.long yy), .second, .val (.long zz), .second, .val (.int (1 : Int32)), .val (.ref b57), .val (.long ((0 : Int64) + xx)), .second, .val (.long xx), .second, .val (.long (((0 : Int64) + xx) / ((1 : Int32).toInt64))), .second] [(.long (0 : Int64)), (.long (0 : Int64))])
    refine Win.st ?_ (fun tq kq => XS.lcmp X77.here hx rfl (hb hby at_216) rfl kq)
    show Win p e below _ T77 (mkF mt 217 #[.val (.long a0_), .second, .val (.long b0_), .second, .val (.long c0_), .second, .val (.int n_), .val (.long xx), .second, .val (.long yy), .second, .val (.long zz), .second, .val (.int (1 : Int32)), .val (.ref b57), .val (.long ((0 : Int64) + xx)), .second, .val (.long xx), .second, .val (.long (((0 : Int64) + xx) / ((1 : Int32).toInt64))), .second] [(.int (lcmpW (0 : Int64) (0 : Int64)))])
    refine Win.st ?_ (fun tq kq => XS.ifNo X77.here hx rfl (hb hby at_217) rfl ((if0 _ _).trans (teq ((lw_eq _ _).mpr rfl)).2) kq)
    show Win p e below _ T77 (mkF mt 220 #[.val (.long a0_), .second, .val (.long b0_), .second, .val (.long c0_), .second, .val (.int n_), .val (.long xx), .second, .val (.long yy), .second, .val (.long zz), .second, .val (.int (1 : Int32)), .val (.ref b57), .val (.long ((0 : Int64) + xx)), .second, .val (.long xx), .second, .val (.long (((0 : Int64) + xx) / ((1 : Int32).toInt64))), .second] [])
    refine Win.st ?_ (fun tq kq => XS.aload X77.here hx rfl (hb hby at_220) rfl rfl kq)
    show Win p e below _ T77 (mkF mt 222 #[.val (.long a0_), .second, .val (.long b0_), .second, .val (.long c0_), .second, .val (.int n_), .val (.long xx), .second, .val (.long yy), .second, .val (.long zz), .second, .val (.int (1 : Int32)), .val (.ref b57), .val (.long ((0 : Int64) + xx)), .second, .val (.long xx), .second, .val (.long (((0 : Int64) + xx) / ((1 : Int32).toInt64))), .second] [(.ref b57)])
    obtain ⟨cq78, kq78, q78a, q78b, q78c⟩ := isOf hZ e77 f71_283
    obtain ⟨v78, _, ⟨T78, L78, k78, n78⟩, -, X78, ⟨Lc78, hQ78, l78, y78, z78⟩, st78⟩ := X77.virtualBack hx (y := (⟨"com/example/interleave/interleave/Tally", "retried", "()J"⟩ : MethodName)) (z := (⟨"com/example/interleave/interleave/Tally", "retried", "()J"⟩ : MethodName)) hown (mvT hZ (hw _ (List.mem_of_getElem? (i := 72) rfl))) (mvT hZ (hw _ (List.mem_of_getElem? (i := 73) rfl))) (notFace_of_selects (args := #[]) (mvT hZ (hw _ (List.mem_of_getElem? (i := 75) rfl)))) (mvT hZ (hw _ (List.mem_of_getElem? (i := 75) rfl))) (mvT hZ (hw _ (List.mem_of_getElem? (i := 74) rfl))) (by decide) (backOf (W := 0) (rm_gretried l Z a0 hw [] b57 (0 : Int64) h70 n0 Z72 t70_re) hZ (hw _ (List.mem_of_getElem? (i := 76) rfl)) (hw _ (List.mem_of_getElem? (i := 3) rfl)) (by decide) (by decide)) q78a q78c (g := (mkF mt 222 #[.val (.long a0_), .second, .val (.long b0_), .second, .val (.long c0_), .second, .val (.int n_), .val (.long xx), .second, .val (.long yy), .second, .val (.long zz), .second, .val (.int (1 : Int32)), .val (.ref b57), .val (.long ((0 : Int64) + xx)), .second, .val (.long xx), .second, .val (.long (((0 : Int64) + xx) / ((1 : Int32).toInt64))), .second] [(.ref b57)])) rfl (by rw [hml]; rfl) (Steps.refl _) (argsL := []) (rest := []) (lenOf pd_2 rfl) rfl (by show 2 * 0 + _ ≤ _; exact Nat.le_of_eq rfl) (hb hby at_222) (fun _ _ => ⟨rfl, e77, (by decide : 2 + 0 ≤ _), (by decide : 15 + 0 ≤ _)⟩)
    dsimp only [Pt.U, Pt.locs, Pt.cells, Pt.slots] at X78 l78 y78 z78 st78 hQ78
    subst y78 z78
    replace X78 : Stand p l e _ s mt args below meth cd T78 L78 2 15 := X78
    obtain ⟨h78, e78⟩ : ∃ z, T78.heap = z := ⟨_, rfl⟩
    rw [e78] at hQ78
    obtain ⟨rfl, Nq78, eh78⟩ := hQ78
    have N78 : Fr n0 L78 := by rw [l78]; exact Fr.app N77 Nq78
    rw [eh78] at e78
    refine Win.tr ?_ st78
    show Win p e below _ T78 (mkF mt 225 #[.val (.long a0_), .second, .val (.long b0_), .second, .val (.long c0_), .second, .val (.int n_), .val (.long xx), .second, .val (.long yy), .second, .val (.long zz), .second, .val (.int (1 : Int32)), .val (.ref b57), .val (.long ((0 : Int64) + xx)), .second, .val (.long xx), .second, .val (.long (((0 : Int64) + xx) / ((1 : Int32).toInt64))), .second] [(.long (0 : Int64))])
    refine Win.st ?_ (fun tq kq => XS.lconst X78.here hx rfl (hb hby at_225) kq)
    show Win p e below _ T78 (mkF mt 226 #[.val (.long a0_), .second, .val (.long b0_), .second, .val (.long c0_), .second, .val (.int n_), .val (.long xx), .second, .val (.long yy), .second, .val (.long zz), .second, .val (.int (1 : Int32)), .val (.ref b57), .val (.long ((0 : Int64) + xx)), .second, .val (.long xx), .second, .val (.long (((0 : Int64) + xx) / ((1 : Int32).toInt64))), .second] [(.long (0 : Int64)), (.long (0 : Int64))])
    refine Win.st ?_ (fun tq kq => XS.lcmp X78.here hx rfl (hb hby at_226) rfl kq)
    show Win p e below _ T78 (mkF mt 227 #[.val (.long a0_), .second, .val (.long b0_), .second, .val (.long c0_), .second, .val (.int n_), .val (.long xx), .second, .val (.long yy), .second, .val (.long zz), .second, .val (.int (1 : Int32)), .val (.ref b57), .val (.long ((0 : Int64) + xx)), .second, .val (.long xx), .second, .val (.long (((0 : Int64) + xx) / ((1 : Int32).toInt64))), .second] [(.int (lcmpW (0 : Int64) (0 : Int64)))])
    refine Win.st ?_ (fun tq kq => XS.ifNo X78.here hx rfl (hb hby at_227) rfl ((if0 _ _).trans (teq ((lw_eq _ _).mpr rfl)).2) kq)
    show Win p e below _ T78 (mkF mt 230 #[.val (.long a0_), .second, .val (.long b0_), .second, .val (.long c0_), .second, .val (.int n_), .val (.long xx), .second, .val (.long yy), .second, .val (.long zz), .second, .val (.int (1 : Int32)), .val (.ref b57), .val (.long ((0 : Int64) + xx)), .second, .val (.long xx), .second, .val (.long (((0 : Int64) + xx) / ((1 : Int32).toInt64))), .second] [])
    refine Win.st ?_ (fun tq kq => XS.iconst X78.here hx rfl (hb hby at_230) kq)
    show Win p e below _ T78 (mkF mt 231 #[.val (.long a0_), .second, .val (.long b0_), .second, .val (.long c0_), .second, .val (.int n_), .val (.long xx), .second, .val (.long yy), .second, .val (.long zz), .second, .val (.int (1 : Int32)), .val (.ref b57), .val (.long ((0 : Int64) + xx)), .second, .val (.long xx), .second, .val (.long (((0 : Int64) + xx) / ((1 : Int32).toInt64))), .second] [(.int (1 : Int32))])
    refine Win.st ?_ (fun tq kq => XS.goto X78.here hx rfl (pc0 := 231) (pc' := 235) rfl (hb hby at_231) (by decide) (by decide) kq)
    show Win p e below _ T78 (mkF mt 235 #[.val (.long a0_), .second, .val (.long b0_), .second, .val (.long c0_), .second, .val (.int n_), .val (.long xx), .second, .val (.long yy), .second, .val (.long zz), .second, .val (.int (1 : Int32)), .val (.ref b57), .val (.long ((0 : Int64) + xx)), .second, .val (.long xx), .second, .val (.long (((0 : Int64) + xx) / ((1 : Int32).toInt64))), .second] [(.int (1 : Int32))])
    exact Win.retN X78 hx hlk e78 (t := .boolean) (z' := (1 : Int32)) hrt (by simp) (hb hby at_235) (by decide) (by decide) rfl ⟨rfl, N78⟩
  · show Win p e below _ T61 (mkF mt 37 #[.val (.long a0_), .second, .val (.long b0_), .second, .val (.long c0_), .second, .val (.int n_), .val (.long xx), .second, .val (.long yy), .second, .val (.long zz), .second, .val (.int (2 : Int32)), .val (.ref b57), .unset, .unset, .unset, .unset, .unset, .unset] [])
    refine Win.st ?_ (fun tq kq => XS.iload X61.here hx rfl (hb hby at_37) rfl kq)
    show Win p e below _ T61 (mkF mt 39 #[.val (.long a0_), .second, .val (.long b0_), .second, .val (.long c0_), .second, .val (.int n_), .val (.long xx), .second, .val (.long yy), .second, .val (.long zz), .second, .val (.int (2 : Int32)), .val (.ref b57), .unset, .unset, .unset, .unset, .unset, .unset] [(.int (2 : Int32))])
    refine Win.st ?_ (fun tq kq => XS.iconst X61.here hx rfl (hb hby at_39) kq)
    show Win p e below _ T61 (mkF mt 40 #[.val (.long a0_), .second, .val (.long b0_), .second, .val (.long c0_), .second, .val (.int n_), .val (.long xx), .second, .val (.long yy), .second, .val (.long zz), .second, .val (.int (2 : Int32)), .val (.ref b57), .unset, .unset, .unset, .unset, .unset, .unset] [(.int (1 : Int32)), (.int (2 : Int32))])
    refine Win.st ?_ (fun tq kq => XS.icmpNo X61.here hx rfl (hb hby at_40) rfl (flt (by decide : ¬ ((2 : Int32) < (1 : Int32)))).1 kq)
    show Win p e below _ T61 (mkF mt 43 #[.val (.long a0_), .second, .val (.long b0_), .second, .val (.long c0_), .second, .val (.int n_), .val (.long xx), .second, .val (.long yy), .second, .val (.long zz), .second, .val (.int (2 : Int32)), .val (.ref b57), .unset, .unset, .unset, .unset, .unset, .unset] [])
    refine Win.st ?_ (fun tq kq => XS.aload X61.here hx rfl (hb hby at_43) rfl rfl kq)
    show Win p e below _ T61 (mkF mt 45 #[.val (.long a0_), .second, .val (.long b0_), .second, .val (.long c0_), .second, .val (.int n_), .val (.long xx), .second, .val (.long yy), .second, .val (.long zz), .second, .val (.int (2 : Int32)), .val (.ref b57), .unset, .unset, .unset, .unset, .unset, .unset] [(.ref b57)])
    refine Win.st ?_ (fun tq kq => XS.lload X61.here hx rfl (hb hby at_45) rfl kq)
    show Win p e below _ T61 (mkF mt 47 #[.val (.long a0_), .second, .val (.long b0_), .second, .val (.long c0_), .second, .val (.int n_), .val (.long xx), .second, .val (.long yy), .second, .val (.long zz), .second, .val (.int (2 : Int32)), .val (.ref b57), .unset, .unset, .unset, .unset, .unset, .unset] [(.long xx), (.ref b57)])
    obtain ⟨cq79, kq79, q79a, q79b, q79c⟩ := isOf hZ e61 f62_74
    obtain ⟨v79, _, ⟨T79, L79, k79, n79⟩, -, X79, ⟨Lc79, hQ79, l79, y79, z79⟩, st79⟩ := X61.virtualBack hx (y := (⟨"com/example/interleave/interleave/Tally", "commit", "(J)V"⟩ : MethodName)) (z := (⟨"com/example/interleave/interleave/Tally", "commit", "(J)V"⟩ : MethodName)) hown (mvT hZ (hw _ (List.mem_of_getElem? (i := 28) rfl))) (mvT hZ (hw _ (List.mem_of_getElem? (i := 29) rfl))) (notFace_of_selects (args := #[]) (mvT hZ (hw _ (List.mem_of_getElem? (i := 31) rfl)))) (mvT hZ (hw _ (List.mem_of_getElem? (i := 31) rfl))) (mvT hZ (hw _ (List.mem_of_getElem? (i := 30) rfl))) (by decide) (backOf (W := 0) (rm_tcommit l Z a0 hw [] b57 xx (0 : Int64) (0 : Int64) (0 : Int64) (0 : Int64) (0 : Int64) (0 : Int64) h61 n0 Z63 f62_74 t61_st t61_cm t61_nn t61_lo t61_re t61_fa g58) hZ (hw _ (List.mem_of_getElem? (i := 32) rfl)) (hw _ (List.mem_of_getElem? (i := 3) rfl)) (by decide) (by decide)) q79a q79c (g := (mkF mt 47 #[.val (.long a0_), .second, .val (.long b0_), .second, .val (.long c0_), .second, .val (.int n_), .val (.long xx), .second, .val (.long yy), .second, .val (.long zz), .second, .val (.int (2 : Int32)), .val (.ref b57), .unset, .unset, .unset, .unset, .unset, .unset] [(.long xx), (.ref b57)])) rfl (by rw [hml]; rfl) (Steps.refl _) (argsL := [(.long xx)]) (rest := []) (lenOf pd_3 rfl) rfl (by show 2 * 0 + _ ≤ _; exact Nat.le_of_eq rfl) (hb hby at_47) (fun _ _ => ⟨rfl, e61, (by decide : 2 + 0 ≤ _), (by decide : 15 + 0 ≤ _)⟩)
    dsimp only [Pt.U, Pt.locs, Pt.cells, Pt.slots] at X79 l79 y79 z79 st79 hQ79
    subst y79 z79
    replace X79 : Stand p l e _ s mt args below meth cd T79 L79 2 15 := X79
    obtain ⟨h79, e79⟩ : ∃ z, T79.heap = z := ⟨_, rfl⟩
    rw [e79] at hQ79
    obtain ⟨rfl, Nq79, K79, t79_st, t79_cm, t79_nn, t79_lo, t79_re, t79_fa⟩ := hQ79
    have N79 : Fr n0 L79 := by rw [l79]; exact Fr.app N61 Nq79
    have f80_498 := f62_74.keep K79
    have Z81 : n0 ≤ h79.size := Nat.le_trans Z63 K79.1
    refine Win.tr ?_ st79
    show Win p e below _ T79 (mkF mt 50 #[.val (.long a0_), .second, .val (.long b0_), .second, .val (.long c0_), .second, .val (.int n_), .val (.long xx), .second, .val (.long yy), .second, .val (.long zz), .second, .val (.int (2 : Int32)), .val (.ref b57), .unset, .unset, .unset, .unset, .unset, .unset] [])
    refine Win.st ?_ (fun tq kq => XS.iload X79.here hx rfl (hb hby at_50) rfl kq)
    show Win p e below _ T79 (mkF mt 52 #[.val (.long a0_), .second, .val (.long b0_), .second, .val (.long c0_), .second, .val (.int n_), .val (.long xx), .second, .val (.long yy), .second, .val (.long zz), .second, .val (.int (2 : Int32)), .val (.ref b57), .unset, .unset, .unset, .unset, .unset, .unset] [(.int (2 : Int32))])
    refine Win.st ?_ (fun tq kq => XS.iconst X79.here hx rfl (hb hby at_52) kq)
    show Win p e below _ T79 (mkF mt 53 #[.val (.long a0_), .second, .val (.long b0_), .second, .val (.long c0_), .second, .val (.int n_), .val (.long xx), .second, .val (.long yy), .second, .val (.long zz), .second, .val (.int (2 : Int32)), .val (.ref b57), .unset, .unset, .unset, .unset, .unset, .unset] [(.int (2 : Int32)), (.int (2 : Int32))])
    refine Win.st ?_ (fun tq kq => XS.icmpNo X79.here hx rfl (hb hby at_53) rfl (flt (Int32.lt_irrefl)).1 kq)
    show Win p e below _ T79 (mkF mt 56 #[.val (.long a0_), .second, .val (.long b0_), .second, .val (.long c0_), .second, .val (.int n_), .val (.long xx), .second, .val (.long yy), .second, .val (.long zz), .second, .val (.int (2 : Int32)), .val (.ref b57), .unset, .unset, .unset, .unset, .unset, .unset] [])
    refine Win.st ?_ (fun tq kq => XS.aload X79.here hx rfl (hb hby at_56) rfl rfl kq)
    show Win p e below _ T79 (mkF mt 58 #[.val (.long a0_), .second, .val (.long b0_), .second, .val (.long c0_), .second, .val (.int n_), .val (.long xx), .second, .val (.long yy), .second, .val (.long zz), .second, .val (.int (2 : Int32)), .val (.ref b57), .unset, .unset, .unset, .unset, .unset, .unset] [(.ref b57)])
    refine Win.st ?_ (fun tq kq => XS.lload X79.here hx rfl (hb hby at_58) rfl kq)
    show Win p e below _ T79 (mkF mt 60 #[.val (.long a0_), .second, .val (.long b0_), .second, .val (.long c0_), .second, .val (.int n_), .val (.long xx), .second, .val (.long yy), .second, .val (.long zz), .second, .val (.int (2 : Int32)), .val (.ref b57), .unset, .unset, .unset, .unset, .unset, .unset] [(.long yy), (.ref b57)])
    obtain ⟨cq82, kq82, q82a, q82b, q82c⟩ := isOf hZ e79 f80_498
    obtain ⟨v82, _, ⟨T82, L82, k82, n82⟩, -, X82, ⟨Lc82, hQ82, l82, y82, z82⟩, st82⟩ := X79.virtualBack hx (y := (⟨"com/example/interleave/interleave/Tally", "commit", "(J)V"⟩ : MethodName)) (z := (⟨"com/example/interleave/interleave/Tally", "commit", "(J)V"⟩ : MethodName)) hown (mvT hZ (hw _ (List.mem_of_getElem? (i := 28) rfl))) (mvT hZ (hw _ (List.mem_of_getElem? (i := 29) rfl))) (notFace_of_selects (args := #[]) (mvT hZ (hw _ (List.mem_of_getElem? (i := 31) rfl)))) (mvT hZ (hw _ (List.mem_of_getElem? (i := 31) rfl))) (mvT hZ (hw _ (List.mem_of_getElem? (i := 30) rfl))) (by decide) (backOf (W := 0) (rm_tcommit l Z a0 hw [] b57 yy (0 : Int64) ((0 : Int64) + (1 : Int64)) ((0 : Int64) + xx) (own_maxL (0 : Int64) xx) (0 : Int64) (0 : Int64) h79 n0 Z81 f80_498 t79_st t79_cm t79_nn t79_lo t79_re t79_fa g58) hZ (hw _ (List.mem_of_getElem? (i := 32) rfl)) (hw _ (List.mem_of_getElem? (i := 3) rfl)) (by decide) (by decide)) q82a q82c (g := (mkF mt 60 #[.val (.long a0_), .second, .val (.long b0_), .second, .val (.long c0_), .second, .val (.int n_), .val (.long xx), .second, .val (.long yy), .second, .val (.long zz), .second, .val (.int (2 : Int32)), .val (.ref b57), .unset, .unset, .unset, .unset, .unset, .unset] [(.long yy), (.ref b57)])) rfl (by rw [hml]; rfl) (Steps.refl _) (argsL := [(.long yy)]) (rest := []) (lenOf pd_3 rfl) rfl (by show 2 * 0 + _ ≤ _; exact Nat.le_of_eq rfl) (hb hby at_60) (fun _ _ => ⟨rfl, e79, (by decide : 2 + 0 ≤ _), (by decide : 15 + 0 ≤ _)⟩)
    dsimp only [Pt.U, Pt.locs, Pt.cells, Pt.slots] at X82 l82 y82 z82 st82 hQ82
    subst y82 z82
    replace X82 : Stand p l e _ s mt args below meth cd T82 L82 2 15 := X82
    obtain ⟨h82, e82⟩ : ∃ z, T82.heap = z := ⟨_, rfl⟩
    rw [e82] at hQ82
    obtain ⟨rfl, Nq82, K82, t82_st, t82_cm, t82_nn, t82_lo, t82_re, t82_fa⟩ := hQ82
    have N82 : Fr n0 L82 := by rw [l82]; exact Fr.app N79 Nq82
    have f83_521 := f80_498.keep K82
    have Z84 : n0 ≤ h82.size := Nat.le_trans Z81 K82.1
    refine Win.tr ?_ st82
    show Win p e below _ T82 (mkF mt 63 #[.val (.long a0_), .second, .val (.long b0_), .second, .val (.long c0_), .second, .val (.int n_), .val (.long xx), .second, .val (.long yy), .second, .val (.long zz), .second, .val (.int (2 : Int32)), .val (.ref b57), .unset, .unset, .unset, .unset, .unset, .unset] [])
    refine Win.st ?_ (fun tq kq => XS.iload X82.here hx rfl (hb hby at_63) rfl kq)
    show Win p e below _ T82 (mkF mt 65 #[.val (.long a0_), .second, .val (.long b0_), .second, .val (.long c0_), .second, .val (.int n_), .val (.long xx), .second, .val (.long yy), .second, .val (.long zz), .second, .val (.int (2 : Int32)), .val (.ref b57), .unset, .unset, .unset, .unset, .unset, .unset] [(.int (2 : Int32))])
    refine Win.st ?_ (fun tq kq => XS.iconst X82.here hx rfl (hb hby at_65) kq)
    show Win p e below _ T82 (mkF mt 66 #[.val (.long a0_), .second, .val (.long b0_), .second, .val (.long c0_), .second, .val (.int n_), .val (.long xx), .second, .val (.long yy), .second, .val (.long zz), .second, .val (.int (2 : Int32)), .val (.ref b57), .unset, .unset, .unset, .unset, .unset, .unset] [(.int (3 : Int32)), (.int (2 : Int32))])
    refine Win.st ?_ (fun tq kq => XS.icmpYes X82.here hx rfl (pc0 := 66) (pc' := 76) rfl (hb hby at_66) rfl (tlt (by decide : (2 : Int32) < (3 : Int32))).1 (by decide) (by decide) kq)
    show Win p e below _ T82 (mkF mt 76 #[.val (.long a0_), .second, .val (.long b0_), .second, .val (.long c0_), .second, .val (.int n_), .val (.long xx), .second, .val (.long yy), .second, .val (.long zz), .second, .val (.int (2 : Int32)), .val (.ref b57), .unset, .unset, .unset, .unset, .unset, .unset] [])
    refine Win.st ?_ (fun tq kq => XS.lconst X82.here hx rfl (hb hby at_76) kq)
    show Win p e below _ T82 (mkF mt 77 #[.val (.long a0_), .second, .val (.long b0_), .second, .val (.long c0_), .second, .val (.int n_), .val (.long xx), .second, .val (.long yy), .second, .val (.long zz), .second, .val (.int (2 : Int32)), .val (.ref b57), .unset, .unset, .unset, .unset, .unset, .unset] [(.long (0 : Int64))])
    refine Win.st ?_ (fun tq kq => XS.lstore X82.here hx rfl (hb hby at_77) rfl (l' := #[.val (.long a0_), .second, .val (.long b0_), .second, .val (.long c0_), .second, .val (.int n_), .val (.long xx), .second, .val (.long yy), .second, .val (.long zz), .second, .val (.int (2 : Int32)), .val (.ref b57), .val (.long (0 : Int64)), .second, .unset, .unset, .unset, .unset]) rfl kq)
    show Win p e below _ T82 (mkF mt 79 #[.val (.long a0_), .second, .val (.long b0_), .second, .val (.long c0_), .second, .val (.int n_), .val (.long xx), .second, .val (.long yy), .second, .val (.long zz), .second, .val (.int (2 : Int32)), .val (.ref b57), .val (.long (0 : Int64)), .second, .unset, .unset, .unset, .unset] [])
    refine Win.st ?_ (fun tq kq => XS.lconst X82.here hx rfl (hb hby at_79) kq)
    show Win p e below _ T82 (mkF mt 80 #[.val (.long a0_), .second, .val (.long b0_), .second, .val (.long c0_), .second, .val (.int n_), .val (.long xx), .second, .val (.long yy), .second, .val (.long zz), .second, .val (.int (2 : Int32)), .val (.ref b57), .val (.long (0 : Int64)), .second, .unset, .unset, .unset, .unset] [(.long (0 : Int64))])
    refine Win.st ?_ (fun tq kq => XS.lstore X82.here hx rfl (hb hby at_80) rfl (l' := #[.val (.long a0_), .second, .val (.long b0_), .second, .val (.long c0_), .second, .val (.int n_), .val (.long xx), .second, .val (.long yy), .second, .val (.long zz), .second, .val (.int (2 : Int32)), .val (.ref b57), .val (.long (0 : Int64)), .second, .val (.long (0 : Int64)), .second, .unset, .unset]) rfl kq)
    show Win p e below _ T82 (mkF mt 82 #[.val (.long a0_), .second, .val (.long b0_), .second, .val (.long c0_), .second, .val (.int n_), .val (.long xx), .second, .val (.long yy), .second, .val (.long zz), .second, .val (.int (2 : Int32)), .val (.ref b57), .val (.long (0 : Int64)), .second, .val (.long (0 : Int64)), .second, .unset, .unset] [])
    refine Win.st ?_ (fun tq kq => XS.iload X82.here hx rfl (hb hby at_82) rfl kq)
    show Win p e below _ T82 (mkF mt 84 #[.val (.long a0_), .second, .val (.long b0_), .second, .val (.long c0_), .second, .val (.int n_), .val (.long xx), .second, .val (.long yy), .second, .val (.long zz), .second, .val (.int (2 : Int32)), .val (.ref b57), .val (.long (0 : Int64)), .second, .val (.long (0 : Int64)), .second, .unset, .unset] [(.int (2 : Int32))])
    refine Win.st ?_ (fun tq kq => XS.iconst X82.here hx rfl (hb hby at_84) kq)
    show Win p e below _ T82 (mkF mt 85 #[.val (.long a0_), .second, .val (.long b0_), .second, .val (.long c0_), .second, .val (.int n_), .val (.long xx), .second, .val (.long yy), .second, .val (.long zz), .second, .val (.int (2 : Int32)), .val (.ref b57), .val (.long (0 : Int64)), .second, .val (.long (0 : Int64)), .second, .unset, .unset] [(.int (1 : Int32)), (.int (2 : Int32))])
    refine Win.st ?_ (fun tq kq => XS.icmpNo X82.here hx rfl (hb hby at_85) rfl (flt (by decide : ¬ ((2 : Int32) < (1 : Int32)))).1 kq)
    show Win p e below _ T82 (mkF mt 88 #[.val (.long a0_), .second, .val (.long b0_), .second, .val (.long c0_), .second, .val (.int n_), .val (.long xx), .second, .val (.long yy), .second, .val (.long zz), .second, .val (.int (2 : Int32)), .val (.ref b57), .val (.long (0 : Int64)), .second, .val (.long (0 : Int64)), .second, .unset, .unset] [])
    refine Win.st ?_ (fun tq kq => XS.lload X82.here hx rfl (hb hby at_88) rfl kq)
    show Win p e below _ T82 (mkF mt 90 #[.val (.long a0_), .second, .val (.long b0_), .second, .val (.long c0_), .second, .val (.int n_), .val (.long xx), .second, .val (.long yy), .second, .val (.long zz), .second, .val (.int (2 : Int32)), .val (.ref b57), .val (.long (0 : Int64)), .second, .val (.long (0 : Int64)), .second, .unset, .unset] [(.long (0 : Int64))])
    refine Win.st ?_ (fun tq kq => XS.lload X82.here hx rfl (hb hby at_90) rfl kq)
    show Win p e below _ T82 (mkF mt 92 #[.val (.long a0_), .second, .val (.long b0_), .second, .val (.long c0_), .second, .val (.int n_), .val (.long xx), .second, .val (.long yy), .second, .val (.long zz), .second, .val (.int (2 : Int32)), .val (.ref b57), .val (.long (0 : Int64)), .second, .val (.long (0 : Int64)), .second, .unset, .unset] [(.long xx), (.long (0 : Int64))])
    refine Win.st ?_ (fun tq kq => XS.ladd X82.here hx rfl (hb hby at_92) rfl kq)
    show Win p e below _ T82 (mkF mt 93 #[.val (.long a0_), .second, .val (.long b0_), .second, .val (.long c0_), .second, .val (.int n_), .val (.long xx), .second, .val (.long yy), .second, .val (.long zz), .second, .val (.int (2 : Int32)), .val (.ref b57), .val (.long (0 : Int64)), .second, .val (.long (0 : Int64)), .second, .unset, .unset] [(.long ((0 : Int64) + xx))])
    refine Win.st ?_ (fun tq kq => XS.lstore X82.here hx rfl (hb hby at_93) rfl (l' := #[.val (.long a0_), .second, .val (.long b0_), .second, .val (.long c0_), .second, .val (.int n_), .val (.long xx), .second, .val (.long yy), .second, .val (.long zz), .second, .val (.int (2 : Int32)), .val (.ref b57), .val (.long ((0 : Int64) + xx)), .second, .val (.long (0 : Int64)), .second, .unset, .unset]) rfl kq)
    show Win p e below _ T82 (mkF mt 95 #[.val (.long a0_), .second, .val (.long b0_), .second, .val (.long c0_), .second, .val (.int n_), .val (.long xx), .second, .val (.long yy), .second, .val (.long zz), .second, .val (.int (2 : Int32)), .val (.ref b57), .val (.long ((0 : Int64) + xx)), .second, .val (.long (0 : Int64)), .second, .unset, .unset] [])
    refine Win.st ?_ (fun tq kq => XS.lload X82.here hx rfl (hb hby at_95) rfl kq)
    show Win p e below _ T82 (mkF mt 97 #[.val (.long a0_), .second, .val (.long b0_), .second, .val (.long c0_), .second, .val (.int n_), .val (.long xx), .second, .val (.long yy), .second, .val (.long zz), .second, .val (.int (2 : Int32)), .val (.ref b57), .val (.long ((0 : Int64) + xx)), .second, .val (.long (0 : Int64)), .second, .unset, .unset] [(.long xx)])
    refine Win.st ?_ (fun tq kq => XS.lstore X82.here hx rfl (hb hby at_97) rfl (l' := #[.val (.long a0_), .second, .val (.long b0_), .second, .val (.long c0_), .second, .val (.int n_), .val (.long xx), .second, .val (.long yy), .second, .val (.long zz), .second, .val (.int (2 : Int32)), .val (.ref b57), .val (.long ((0 : Int64) + xx)), .second, .val (.long xx), .second, .unset, .unset]) rfl kq)
    show Win p e below _ T82 (mkF mt 99 #[.val (.long a0_), .second, .val (.long b0_), .second, .val (.long c0_), .second, .val (.int n_), .val (.long xx), .second, .val (.long yy), .second, .val (.long zz), .second, .val (.int (2 : Int32)), .val (.ref b57), .val (.long ((0 : Int64) + xx)), .second, .val (.long xx), .second, .unset, .unset] [])
    refine Win.st ?_ (fun tq kq => XS.iload X82.here hx rfl (hb hby at_99) rfl kq)
    show Win p e below _ T82 (mkF mt 101 #[.val (.long a0_), .second, .val (.long b0_), .second, .val (.long c0_), .second, .val (.int n_), .val (.long xx), .second, .val (.long yy), .second, .val (.long zz), .second, .val (.int (2 : Int32)), .val (.ref b57), .val (.long ((0 : Int64) + xx)), .second, .val (.long xx), .second, .unset, .unset] [(.int (2 : Int32))])
    refine Win.st ?_ (fun tq kq => XS.iconst X82.here hx rfl (hb hby at_101) kq)
    show Win p e below _ T82 (mkF mt 102 #[.val (.long a0_), .second, .val (.long b0_), .second, .val (.long c0_), .second, .val (.int n_), .val (.long xx), .second, .val (.long yy), .second, .val (.long zz), .second, .val (.int (2 : Int32)), .val (.ref b57), .val (.long ((0 : Int64) + xx)), .second, .val (.long xx), .second, .unset, .unset] [(.int (2 : Int32)), (.int (2 : Int32))])
    refine Win.st ?_ (fun tq kq => XS.icmpNo X82.here hx rfl (hb hby at_102) rfl (flt (Int32.lt_irrefl)).1 kq)
    show Win p e below _ T82 (mkF mt 105 #[.val (.long a0_), .second, .val (.long b0_), .second, .val (.long c0_), .second, .val (.int n_), .val (.long xx), .second, .val (.long yy), .second, .val (.long zz), .second, .val (.int (2 : Int32)), .val (.ref b57), .val (.long ((0 : Int64) + xx)), .second, .val (.long xx), .second, .unset, .unset] [])
    refine Win.st ?_ (fun tq kq => XS.lload X82.here hx rfl (hb hby at_105) rfl kq)
    show Win p e below _ T82 (mkF mt 107 #[.val (.long a0_), .second, .val (.long b0_), .second, .val (.long c0_), .second, .val (.int n_), .val (.long xx), .second, .val (.long yy), .second, .val (.long zz), .second, .val (.int (2 : Int32)), .val (.ref b57), .val (.long ((0 : Int64) + xx)), .second, .val (.long xx), .second, .unset, .unset] [(.long ((0 : Int64) + xx))])
    refine Win.st ?_ (fun tq kq => XS.lload X82.here hx rfl (hb hby at_107) rfl kq)
    show Win p e below _ T82 (mkF mt 109 #[.val (.long a0_), .second, .val (.long b0_), .second, .val (.long c0_), .second, .val (.int n_), .val (.long xx), .second, .val (.long yy), .second, .val (.long zz), .second, .val (.int (2 : Int32)), .val (.ref b57), .val (.long ((0 : Int64) + xx)), .second, .val (.long xx), .second, .unset, .unset] [(.long yy), (.long ((0 : Int64) + xx))])
    refine Win.st ?_ (fun tq kq => XS.ladd X82.here hx rfl (hb hby at_109) rfl kq)
    show Win p e below _ T82 (mkF mt 110 #[.val (.long a0_), .second, .val (.long b0_), .second, .val (.long c0_), .second, .val (.int n_), .val (.long xx), .second, .val (.long yy), .second, .val (.long zz), .second, .val (.int (2 : Int32)), .val (.ref b57), .val (.long ((0 : Int64) + xx)), .second, .val (.long xx), .second, .unset, .unset] [(.long (((0 : Int64) + xx) + yy))])
    refine Win.st ?_ (fun tq kq => XS.lstore X82.here hx rfl (hb hby at_110) rfl (l' := #[.val (.long a0_), .second, .val (.long b0_), .second, .val (.long c0_), .second, .val (.int n_), .val (.long xx), .second, .val (.long yy), .second, .val (.long zz), .second, .val (.int (2 : Int32)), .val (.ref b57), .val (.long (((0 : Int64) + xx) + yy)), .second, .val (.long xx), .second, .unset, .unset]) rfl kq)
    show Win p e below _ T82 (mkF mt 112 #[.val (.long a0_), .second, .val (.long b0_), .second, .val (.long c0_), .second, .val (.int n_), .val (.long xx), .second, .val (.long yy), .second, .val (.long zz), .second, .val (.int (2 : Int32)), .val (.ref b57), .val (.long (((0 : Int64) + xx) + yy)), .second, .val (.long xx), .second, .unset, .unset] [])
    refine Win.st ?_ (fun tq kq => XS.lload X82.here hx rfl (hb hby at_112) rfl kq)
    show Win p e below _ T82 (mkF mt 114 #[.val (.long a0_), .second, .val (.long b0_), .second, .val (.long c0_), .second, .val (.int n_), .val (.long xx), .second, .val (.long yy), .second, .val (.long zz), .second, .val (.int (2 : Int32)), .val (.ref b57), .val (.long (((0 : Int64) + xx) + yy)), .second, .val (.long xx), .second, .unset, .unset] [(.long yy)])
    refine Win.st ?_ (fun tq kq => XS.lload X82.here hx rfl (hb hby at_114) rfl kq)
    show Win p e below _ T82 (mkF mt 116 #[.val (.long a0_), .second, .val (.long b0_), .second, .val (.long c0_), .second, .val (.int n_), .val (.long xx), .second, .val (.long yy), .second, .val (.long zz), .second, .val (.int (2 : Int32)), .val (.ref b57), .val (.long (((0 : Int64) + xx) + yy)), .second, .val (.long xx), .second, .unset, .unset] [(.long xx), (.long yy)])
    refine Win.st ?_ (fun tq kq => XS.lcmp X82.here hx rfl (hb hby at_116) rfl kq)
    show Win p e below _ T82 (mkF mt 117 #[.val (.long a0_), .second, .val (.long b0_), .second, .val (.long c0_), .second, .val (.int n_), .val (.long xx), .second, .val (.long yy), .second, .val (.long zz), .second, .val (.int (2 : Int32)), .val (.ref b57), .val (.long (((0 : Int64) + xx) + yy)), .second, .val (.long xx), .second, .unset, .unset] [(.int (lcmpW yy xx))])
    have jm1 : ∀ (T85 : State) (L85 : List Loc) (m1 : Int64), Stand p l e room_1 s mt args below meth cd T85 L85 2 15 → T85.heap = h82 → Fr n0 L85 → m1 = own_maxL xx yy → Win p e below (Ends s (Q_law Z a0_ b0_ c0_ n_ h0 n0) 2 15) T85 (mkF mt 124 #[.val (.long a0_), .second, .val (.long b0_), .second, .val (.long c0_), .second, .val (.int n_), .val (.long xx), .second, .val (.long yy), .second, .val (.long zz), .second, .val (.int (2 : Int32)), .val (.ref b57), .val (.long (((0 : Int64) + xx) + yy)), .second, .val (.long m1), .second, .unset, .unset] []) := by
      intro T85 L85 m1 X85 e85 N85 hm1
      refine Win.st ?_ (fun tq kq => XS.iload X85.here hx rfl (hb hby at_124) rfl kq)
      show Win p e below _ T85 (mkF mt 126 #[.val (.long a0_), .second, .val (.long b0_), .second, .val (.long c0_), .second, .val (.int n_), .val (.long xx), .second, .val (.long yy), .second, .val (.long zz), .second, .val (.int (2 : Int32)), .val (.ref b57), .val (.long (((0 : Int64) + xx) + yy)), .second, .val (.long m1), .second, .unset, .unset] [(.int (2 : Int32))])
      refine Win.st ?_ (fun tq kq => XS.iconst X85.here hx rfl (hb hby at_126) kq)
      show Win p e below _ T85 (mkF mt 127 #[.val (.long a0_), .second, .val (.long b0_), .second, .val (.long c0_), .second, .val (.int n_), .val (.long xx), .second, .val (.long yy), .second, .val (.long zz), .second, .val (.int (2 : Int32)), .val (.ref b57), .val (.long (((0 : Int64) + xx) + yy)), .second, .val (.long m1), .second, .unset, .unset] [(.int (3 : Int32)), (.int (2 : Int32))])
      refine Win.st ?_ (fun tq kq => XS.icmpYes X85.here hx rfl (pc0 := 127) (pc' := 149) rfl (hb hby at_127) rfl (tlt (by decide : (2 : Int32) < (3 : Int32))).1 (by decide) (by decide) kq)
      show Win p e below _ T85 (mkF mt 149 #[.val (.long a0_), .second, .val (.long b0_), .second, .val (.long c0_), .second, .val (.int n_), .val (.long xx), .second, .val (.long yy), .second, .val (.long zz), .second, .val (.int (2 : Int32)), .val (.ref b57), .val (.long (((0 : Int64) + xx) + yy)), .second, .val (.long m1), .second, .unset, .unset] [])
      refine Win.st ?_ (fun tq kq => XS.iload X85.here hx rfl (hb hby at_149) rfl kq)
      show Win p e below _ T85 (mkF mt 151 #[.val (.long a0_), .second, .val (.long b0_), .second, .val (.long c0_), .second, .val (.int n_), .val (.long xx), .second, .val (.long yy), .second, .val (.long zz), .second, .val (.int (2 : Int32)), .val (.ref b57), .val (.long (((0 : Int64) + xx) + yy)), .second, .val (.long m1), .second, .unset, .unset] [(.int (2 : Int32))])
      refine Win.st ?_ (fun tq kq => XS.ifYes X85.here hx rfl (pc0 := 151) (pc' := 158) rfl (hb hby at_151) rfl ((if0 _ _).trans (feq (by decide : ¬ ((2 : Int32) = (0 : Int32)))).2) (by decide) (by decide) kq)
      show Win p e below _ T85 (mkF mt 158 #[.val (.long a0_), .second, .val (.long b0_), .second, .val (.long c0_), .second, .val (.int n_), .val (.long xx), .second, .val (.long yy), .second, .val (.long zz), .second, .val (.int (2 : Int32)), .val (.ref b57), .val (.long (((0 : Int64) + xx) + yy)), .second, .val (.long m1), .second, .unset, .unset] [])
      refine Win.st ?_ (fun tq kq => XS.lload X85.here hx rfl (hb hby at_158) rfl kq)
      show Win p e below _ T85 (mkF mt 160 #[.val (.long a0_), .second, .val (.long b0_), .second, .val (.long c0_), .second, .val (.int n_), .val (.long xx), .second, .val (.long yy), .second, .val (.long zz), .second, .val (.int (2 : Int32)), .val (.ref b57), .val (.long (((0 : Int64) + xx) + yy)), .second, .val (.long m1), .second, .unset, .unset] [(.long (((0 : Int64) + xx) + yy))])
      refine Win.st ?_ (fun tq kq => XS.iload X85.here hx rfl (hb hby at_160) rfl kq)
      show Win p e below _ T85 (mkF mt 162 #[.val (.long a0_), .second, .val (.long b0_), .second, .val (.long c0_), .second, .val (.int n_), .val (.long xx), .second, .val (.long yy), .second, .val (.long zz), .second, .val (.int (2 : Int32)), .val (.ref b57), .val (.long (((0 : Int64) + xx) + yy)), .second, .val (.long m1), .second, .unset, .unset] [(.int (2 : Int32)), (.long (((0 : Int64) + xx) + yy))])
      refine Win.st ?_ (fun tq kq => XS.i2l X85.here hx rfl (hb hby at_162) rfl kq)
      show Win p e below _ T85 (mkF mt 163 #[.val (.long a0_), .second, .val (.long b0_), .second, .val (.long c0_), .second, .val (.int n_), .val (.long xx), .second, .val (.long yy), .second, .val (.long zz), .second, .val (.int (2 : Int32)), .val (.ref b57), .val (.long (((0 : Int64) + xx) + yy)), .second, .val (.long m1), .second, .unset, .unset] [(.long ((2 : Int32).toInt64)), (.long (((0 : Int64) + xx) + yy))])
      refine Win.st ?_ (fun tq kq => XS.ldiv X85.here hx rfl (hb hby at_163) rfl (by decide) kq)
      show Win p e below _ T85 (mkF mt 164 #[.val (.long a0_), .second, .val (.long b0_), .second, .val (.long c0_), .second, .val (.int n_), .val (.long xx), .second, .val (.long yy), .second, .val (.long zz), .second, .val (.int (2 : Int32)), .val (.ref b57), .val (.long (((0 : Int64) + xx) + yy)), .second, .val (.long m1), .second, .unset, .unset] [(.long ((((0 : Int64) + xx) + yy) / ((2 : Int32).toInt64)))])
      refine Win.st ?_ (fun tq kq => XS.lstore X85.here hx rfl (hb hby at_164) rfl (l' := #[.val (.long a0_), .second, .val (.long b0_), .second, .val (.long c0_), .second, .val (.int n_), .val (.long xx), .second, .val (.long yy), .second, .val (.long zz), .second, .val (.int (2 : Int32)), .val (.ref b57), .val (.long (((0 : Int64) + xx) + yy)), .second, .val (.long m1), .second, .val (.long ((((0 : Int64) + xx) + yy) / ((2 : Int32).toInt64))), .second]) rfl kq)
      show Win p e below _ T85 (mkF mt 166 #[.val (.long a0_), .second, .val (.long b0_), .second, .val (.long c0_), .second, .val (.int n_), .val (.long xx), .second, .val (.long yy), .second, .val (.long zz), .second, .val (.int (2 : Int32)), .val (.ref b57), .val (.long (((0 : Int64) + xx) + yy)), .second, .val (.long m1), .second, .val (.long ((((0 : Int64) + xx) + yy) / ((2 : Int32).toInt64))), .second] [])
      refine Win.st ?_ (fun tq kq => XS.aload X85.here hx rfl (hb hby at_166) rfl rfl kq)
      show Win p e below _ T85 (mkF mt 168 #[.val (.long a0_), .second, .val (.long b0_), .second, .val (.long c0_), .second, .val (.int n_), .val (.long xx), .second, .val (.long yy), .second, .val (.long zz), .second, .val (.int (2 : Int32)), .val (.ref b57), .val (.long (((0 : Int64) + xx) + yy)), .second, .val (.long m1), .second, .val (.long ((((0 : Int64) + xx) + yy) / ((2 : Int32).toInt64))), .second] [(.ref b57)])
      obtain ⟨cq86, kq86, q86a, q86b, q86c⟩ := isOf hZ e85 f83_521
      obtain ⟨v86, _, ⟨T86, L86, k86, n86⟩, -, X86, ⟨Lc86, hQ86, l86, y86, z86⟩, st86⟩ := X85.virtualBack hx (y := (⟨"com/example/interleave/interleave/Tally", "committed", "()J"⟩ : MethodName)) (z := (⟨"com/example/interleave/interleave/Tally", "committed", "()J"⟩ : MethodName)) hown (mvT hZ (hw _ (List.mem_of_getElem? (i := 43) rfl))) (mvT hZ (hw _ (List.mem_of_getElem? (i := 44) rfl))) (notFace_of_selects (args := #[]) (mvT hZ (hw _ (List.mem_of_getElem? (i := 46) rfl)))) (mvT hZ (hw _ (List.mem_of_getElem? (i := 46) rfl))) (mvT hZ (hw _ (List.mem_of_getElem? (i := 45) rfl))) (by decide) (backOf (W := 0) (rm_gcommitted l Z a0 hw [] b57 (((0 : Int64) + (1 : Int64)) + (1 : Int64)) h82 n0 Z84 t82_cm) hZ (hw _ (List.mem_of_getElem? (i := 47) rfl)) (hw _ (List.mem_of_getElem? (i := 3) rfl)) (by decide) (by decide)) q86a q86c (g := (mkF mt 168 #[.val (.long a0_), .second, .val (.long b0_), .second, .val (.long c0_), .second, .val (.int n_), .val (.long xx), .second, .val (.long yy), .second, .val (.long zz), .second, .val (.int (2 : Int32)), .val (.ref b57), .val (.long (((0 : Int64) + xx) + yy)), .second, .val (.long m1), .second, .val (.long ((((0 : Int64) + xx) + yy) / ((2 : Int32).toInt64))), .second] [(.ref b57)])) rfl (by rw [hml]; rfl) (Steps.refl _) (argsL := []) (rest := []) (lenOf pd_2 rfl) rfl (by show 2 * 0 + _ ≤ _; exact Nat.le_of_eq rfl) (hb hby at_168) (fun _ _ => ⟨rfl, e85, (by decide : 2 + 0 ≤ _), (by decide : 15 + 0 ≤ _)⟩)
      dsimp only [Pt.U, Pt.locs, Pt.cells, Pt.slots] at X86 l86 y86 z86 st86 hQ86
      subst y86 z86
      replace X86 : Stand p l e _ s mt args below meth cd T86 L86 2 15 := X86
      obtain ⟨h86, e86⟩ : ∃ z, T86.heap = z := ⟨_, rfl⟩
      rw [e86] at hQ86
      obtain ⟨rfl, Nq86, eh86⟩ := hQ86
      have N86 : Fr n0 L86 := by rw [l86]; exact Fr.app N85 Nq86
      rw [eh86] at e86
      refine Win.tr ?_ st86
      show Win p e below _ T86 (mkF mt 171 #[.val (.long a0_), .second, .val (.long b0_), .second, .val (.long c0_), .second, .val (.int n_), .val (.long xx), .second, .val (.long yy), .second, .val (.long zz), .second, .val (.int (2 : Int32)), .val (.ref b57), .val (.long (((0 : Int64) + xx) + yy)), .second, .val (.long m1), .second, .val (.long ((((0 : Int64) + xx) + yy) / ((2 : Int32).toInt64))), .second] [(.long (((0 : Int64) + (1 : Int64)) + (1 : Int64)))])
      refine Win.st ?_ (fun tq kq => XS.iload X86.here hx rfl (hb hby at_171) rfl kq)
      show Win p e below _ T86 (mkF mt 173 #[.val (.long a0_), .second, .val (.long b0_), .second, .val (.long c0_), .second, .val (.int n_), .val (.long xx), .second, .val (.long yy), .second, .val (.long zz), .second, .val (.int (2 : Int32)), .val (.ref b57), .val (.long (((0 : Int64) + xx) + yy)), .second, .val (.long m1), .second, .val (.long ((((0 : Int64) + xx) + yy) / ((2 : Int32).toInt64))), .second] [(.int (2 : Int32)), (.long (((0 : Int64) + (1 : Int64)) + (1 : Int64)))])
      refine Win.st ?_ (fun tq kq => XS.i2l X86.here hx rfl (hb hby at_173) rfl kq)
      show Win p e below _ T86 (mkF mt 174 #[.val (.long a0_), .second, .val (.long b0_), .second, .val (.long c0_), .second, .val (.int n_), .val (.long xx), .second, .val (.long yy), .second, .val (.long zz), .second, .val (.int (2 : Int32)), .val (.ref b57), .val (.long (((0 : Int64) + xx) + yy)), .second, .val (.long m1), .second, .val (.long ((((0 : Int64) + xx) + yy) / ((2 : Int32).toInt64))), .second] [(.long ((2 : Int32).toInt64)), (.long (((0 : Int64) + (1 : Int64)) + (1 : Int64)))])
      refine Win.st ?_ (fun tq kq => XS.lcmp X86.here hx rfl (hb hby at_174) rfl kq)
      show Win p e below _ T86 (mkF mt 175 #[.val (.long a0_), .second, .val (.long b0_), .second, .val (.long c0_), .second, .val (.int n_), .val (.long xx), .second, .val (.long yy), .second, .val (.long zz), .second, .val (.int (2 : Int32)), .val (.ref b57), .val (.long (((0 : Int64) + xx) + yy)), .second, .val (.long m1), .second, .val (.long ((((0 : Int64) + xx) + yy) / ((2 : Int32).toInt64))), .second] [(.int (lcmpW (((0 : Int64) + (1 : Int64)) + (1 : Int64)) ((2 : Int32).toInt64)))])
      refine Win.st ?_ (fun tq kq => XS.ifNo X86.here hx rfl (hb hby at_175) rfl ((if0 _ _).trans (teq ((lw_eq _ _).mpr (by decide))).2) kq)
      show Win p e below _ T86 (mkF mt 178 #[.val (.long a0_), .second, .val (.long b0_), .second, .val (.long c0_), .second, .val (.int n_), .val (.long xx), .second, .val (.long yy), .second, .val (.long zz), .second, .val (.int (2 : Int32)), .val (.ref b57), .val (.long (((0 : Int64) + xx) + yy)), .second, .val (.long m1), .second, .val (.long ((((0 : Int64) + xx) + yy) / ((2 : Int32).toInt64))), .second] [])
      refine Win.st ?_ (fun tq kq => XS.aload X86.here hx rfl (hb hby at_178) rfl rfl kq)
      show Win p e below _ T86 (mkF mt 180 #[.val (.long a0_), .second, .val (.long b0_), .second, .val (.long c0_), .second, .val (.int n_), .val (.long xx), .second, .val (.long yy), .second, .val (.long zz), .second, .val (.int (2 : Int32)), .val (.ref b57), .val (.long (((0 : Int64) + xx) + yy)), .second, .val (.long m1), .second, .val (.long ((((0 : Int64) + xx) + yy) / ((2 : Int32).toInt64))), .second] [(.ref b57)])
      obtain ⟨cq87, kq87, q87a, q87b, q87c⟩ := isOf hZ e86 f83_521
      obtain ⟨v87, _, ⟨T87, L87, k87, n87⟩, -, X87, ⟨Lc87, hQ87, l87, y87, z87⟩, st87⟩ := X86.virtualBack hx (y := (⟨"com/example/interleave/interleave/Tally", "averageNanos", "()J"⟩ : MethodName)) (z := (⟨"com/example/interleave/interleave/Tally", "averageNanos", "()J"⟩ : MethodName)) hown (mvT hZ (hw _ (List.mem_of_getElem? (i := 48) rfl))) (mvT hZ (hw _ (List.mem_of_getElem? (i := 49) rfl))) (notFace_of_selects (args := #[]) (mvT hZ (hw _ (List.mem_of_getElem? (i := 51) rfl)))) (mvT hZ (hw _ (List.mem_of_getElem? (i := 51) rfl))) (mvT hZ (hw _ (List.mem_of_getElem? (i := 50) rfl))) (by decide) (backOf (W := 0) (rm_tavg l Z a0 hw [] b57 (((0 : Int64) + (1 : Int64)) + (1 : Int64)) (((0 : Int64) + xx) + yy) h82 n0 Z84 t82_cm t82_nn) hZ (hw _ (List.mem_of_getElem? (i := 52) rfl)) (hw _ (List.mem_of_getElem? (i := 3) rfl)) (by decide) (by decide)) q87a q87c (g := (mkF mt 180 #[.val (.long a0_), .second, .val (.long b0_), .second, .val (.long c0_), .second, .val (.int n_), .val (.long xx), .second, .val (.long yy), .second, .val (.long zz), .second, .val (.int (2 : Int32)), .val (.ref b57), .val (.long (((0 : Int64) + xx) + yy)), .second, .val (.long m1), .second, .val (.long ((((0 : Int64) + xx) + yy) / ((2 : Int32).toInt64))), .second] [(.ref b57)])) rfl (by rw [hml]; rfl) (Steps.refl _) (argsL := []) (rest := []) (lenOf pd_2 rfl) rfl (by show 2 * 0 + _ ≤ _; exact Nat.le_of_eq rfl) (hb hby at_180) (fun _ _ => ⟨rfl, e86, (by decide : 2 + 0 ≤ _), (by decide : 15 + 0 ≤ _)⟩)
      dsimp only [Pt.U, Pt.locs, Pt.cells, Pt.slots] at X87 l87 y87 z87 st87 hQ87
      subst y87 z87
      replace X87 : Stand p l e _ s mt args below meth cd T87 L87 2 15 := X87
      obtain ⟨h87, e87⟩ : ∃ z, T87.heap = z := ⟨_, rfl⟩
      rw [e87] at hQ87
      obtain ⟨rfl, Nq87, eh87⟩ := hQ87
      have N87 : Fr n0 L87 := by rw [l87]; exact Fr.app N86 Nq87
      rw [eh87] at e87
      refine Win.tr ?_ st87
      show Win p e below _ T87 (mkF mt 183 #[.val (.long a0_), .second, .val (.long b0_), .second, .val (.long c0_), .second, .val (.int n_), .val (.long xx), .second, .val (.long yy), .second, .val (.long zz), .second, .val (.int (2 : Int32)), .val (.ref b57), .val (.long (((0 : Int64) + xx) + yy)), .second, .val (.long m1), .second, .val (.long ((((0 : Int64) + xx) + yy) / ((2 : Int32).toInt64))), .second] [(.long (own_avg (((0 : Int64) + (1 : Int64)) + (1 : Int64)) (((0 : Int64) + xx) + yy)))])
      refine Win.st ?_ (fun tq kq => XS.lload X87.here hx rfl (hb hby at_183) rfl kq)
      show Win p e below _ T87 (mkF mt 185 #[.val (.long a0_), .second, .val (.long b0_), .second, .val (.long c0_), .second, .val (.int n_), .val (.long xx), .second, .val (.long yy), .second, .val (.long zz), .second, .val (.int (2 : Int32)), .val (.ref b57), .val (.long (((0 : Int64) + xx) + yy)), .second, .val (.long m1), .second, .val (.long ((((0 : Int64) + xx) + yy) / ((2 : Int32).toInt64))), .second] [(.long ((((0 : Int64) + xx) + yy) / ((2 : Int32).toInt64))), (.long (own_avg (((0 : Int64) + (1 : Int64)) + (1 : Int64)) (((0 : Int64) + xx) + yy)))])
      refine Win.st ?_ (fun tq kq => XS.lcmp X87.here hx rfl (hb hby at_185) rfl kq)
      show Win p e below _ T87 (mkF mt 186 #[.val (.long a0_), .second, .val (.long b0_), .second, .val (.long c0_), .second, .val (.int n_), .val (.long xx), .second, .val (.long yy), .second, .val (.long zz), .second, .val (.int (2 : Int32)), .val (.ref b57), .val (.long (((0 : Int64) + xx) + yy)), .second, .val (.long m1), .second, .val (.long ((((0 : Int64) + xx) + yy) / ((2 : Int32).toInt64))), .second] [(.int (lcmpW (own_avg (((0 : Int64) + (1 : Int64)) + (1 : Int64)) (((0 : Int64) + xx) + yy)) ((((0 : Int64) + xx) + yy) / ((2 : Int32).toInt64))))])
      refine Win.st ?_ (fun tq kq => XS.ifNo X87.here hx rfl (hb hby at_186) rfl ((if0 _ _).trans (teq ((lw_eq _ _).mpr (own_avgd _ _ ((2 : Int32).toInt64) (by decide) (by decide)))).2) kq)
      show Win p e below _ T87 (mkF mt 189 #[.val (.long a0_), .second, .val (.long b0_), .second, .val (.long c0_), .second, .val (.int n_), .val (.long xx), .second, .val (.long yy), .second, .val (.long zz), .second, .val (.int (2 : Int32)), .val (.ref b57), .val (.long (((0 : Int64) + xx) + yy)), .second, .val (.long m1), .second, .val (.long ((((0 : Int64) + xx) + yy) / ((2 : Int32).toInt64))), .second] [])
      refine Win.st ?_ (fun tq kq => XS.aload X87.here hx rfl (hb hby at_189) rfl rfl kq)
      show Win p e below _ T87 (mkF mt 191 #[.val (.long a0_), .second, .val (.long b0_), .second, .val (.long c0_), .second, .val (.int n_), .val (.long xx), .second, .val (.long yy), .second, .val (.long zz), .second, .val (.int (2 : Int32)), .val (.ref b57), .val (.long (((0 : Int64) + xx) + yy)), .second, .val (.long m1), .second, .val (.long ((((0 : Int64) + xx) + yy) / ((2 : Int32).toInt64))), .second] [(.ref b57)])
      obtain ⟨cq88, kq88, q88a, q88b, q88c⟩ := isOf hZ e87 f83_521
      obtain ⟨v88, _, ⟨T88, L88, k88, n88⟩, -, X88, ⟨Lc88, hQ88, l88, y88, z88⟩, st88⟩ := X87.virtualBack hx (y := (⟨"com/example/interleave/interleave/Tally", "longestNanos", "()J"⟩ : MethodName)) (z := (⟨"com/example/interleave/interleave/Tally", "longestNanos", "()J"⟩ : MethodName)) hown (mvT hZ (hw _ (List.mem_of_getElem? (i := 53) rfl))) (mvT hZ (hw _ (List.mem_of_getElem? (i := 54) rfl))) (notFace_of_selects (args := #[]) (mvT hZ (hw _ (List.mem_of_getElem? (i := 56) rfl)))) (mvT hZ (hw _ (List.mem_of_getElem? (i := 56) rfl))) (mvT hZ (hw _ (List.mem_of_getElem? (i := 55) rfl))) (by decide) (backOf (W := 0) (rm_glongestNanos l Z a0 hw [] b57 (own_maxL (own_maxL (0 : Int64) xx) yy) h82 n0 Z84 t82_lo) hZ (hw _ (List.mem_of_getElem? (i := 57) rfl)) (hw _ (List.mem_of_getElem? (i := 3) rfl)) (by decide) (by decide)) q88a q88c (g := (mkF mt 191 #[.val (.long a0_), .second, .val (.long b0_), .second, .val (.long c0_), .second, .val (.int n_), .val (.long xx), .second, .val (.long yy), .second, .val (.long zz), .second, .val (.int (2 : Int32)), .val (.ref b57), .val (.long (((0 : Int64) + xx) + yy)), .second, .val (.long m1), .second, .val (.long ((((0 : Int64) + xx) + yy) / ((2 : Int32).toInt64))), .second] [(.ref b57)])) rfl (by rw [hml]; rfl) (Steps.refl _) (argsL := []) (rest := []) (lenOf pd_2 rfl) rfl (by show 2 * 0 + _ ≤ _; exact Nat.le_of_eq rfl) (hb hby at_191) (fun _ _ => ⟨rfl, e87, (by decide : 2 + 0 ≤ _), (by decide : 15 + 0 ≤ _)⟩)
      dsimp only [Pt.U, Pt.locs, Pt.cells, Pt.slots] at X88 l88 y88 z88 st88 hQ88
      subst y88 z88
      replace X88 : Stand p l e _ s mt args below meth cd T88 L88 2 15 := X88
      obtain ⟨h88, e88⟩ : ∃ z, T88.heap = z := ⟨_, rfl⟩
      rw [e88] at hQ88
      obtain ⟨rfl, Nq88, eh88⟩ := hQ88
      have N88 : Fr n0 L88 := by rw [l88]; exact Fr.app N87 Nq88
      rw [eh88] at e88
      refine Win.tr ?_ st88
      show Win p e below _ T88 (mkF mt 194 #[.val (.long a0_), .second, .val (.long b0_), .second, .val (.long c0_), .second, .val (.int n_), .val (.long xx), .second, .val (.long yy), .second, .val (.long zz), .second, .val (.int (2 : Int32)), .val (.ref b57), .val (.long (((0 : Int64) + xx) + yy)), .second, .val (.long m1), .second, .val (.long ((((0 : Int64) + xx) + yy) / ((2 : Int32).toInt64))), .second] [(.long (own_maxL (own_maxL (0 : Int64) xx) yy))])
      refine Win.st ?_ (fun tq kq => XS.lload X88.here hx rfl (hb hby at_194) rfl kq)
      show Win p e below _ T88 (mkF mt 196 #[.val (.long a0_), .second, .val (.long b0_), .second, .val (.long c0_), .second, .val (.int n_), .val (.long xx), .second, .val (.long yy), .second, .val (.long zz), .second, .val (.int (2 : Int32)), .val (.ref b57), .val (.long (((0 : Int64) + xx) + yy)), .second, .val (.long m1), .second, .val (.long ((((0 : Int64) + xx) + yy) / ((2 : Int32).toInt64))), .second] [(.long m1), (.long (own_maxL (own_maxL (0 : Int64) xx) yy))])
      refine Win.st ?_ (fun tq kq => XS.lcmp X88.here hx rfl (hb hby at_196) rfl kq)
      show Win p e below _ T88 (mkF mt 197 #[.val (.long a0_), .second, .val (.long b0_), .second, .val (.long c0_), .second, .val (.int n_), .val (.long xx), .second, .val (.long yy), .second, .val (.long zz), .second, .val (.int (2 : Int32)), .val (.ref b57), .val (.long (((0 : Int64) + xx) + yy)), .second, .val (.long m1), .second, .val (.long ((((0 : Int64) + xx) + yy) / ((2 : Int32).toInt64))), .second] [(.int (lcmpW (own_maxL (own_maxL (0 : Int64) xx) yy) m1))])
      refine Win.st ?_ (fun tq kq => XS.ifNo X88.here hx rfl (hb hby at_197) rfl ((if0 _ _).trans (teq ((lw_eq _ _).mpr (by rw [own_max0 hpxx]; exact hm1.symm))).2) kq)
      show Win p e below _ T88 (mkF mt 200 #[.val (.long a0_), .second, .val (.long b0_), .second, .val (.long c0_), .second, .val (.int n_), .val (.long xx), .second, .val (.long yy), .second, .val (.long zz), .second, .val (.int (2 : Int32)), .val (.ref b57), .val (.long (((0 : Int64) + xx) + yy)), .second, .val (.long m1), .second, .val (.long ((((0 : Int64) + xx) + yy) / ((2 : Int32).toInt64))), .second] [])
      refine Win.st ?_ (fun tq kq => XS.aload X88.here hx rfl (hb hby at_200) rfl rfl kq)
      show Win p e below _ T88 (mkF mt 202 #[.val (.long a0_), .second, .val (.long b0_), .second, .val (.long c0_), .second, .val (.int n_), .val (.long xx), .second, .val (.long yy), .second, .val (.long zz), .second, .val (.int (2 : Int32)), .val (.ref b57), .val (.long (((0 : Int64) + xx) + yy)), .second, .val (.long m1), .second, .val (.long ((((0 : Int64) + xx) + yy) / ((2 : Int32).toInt64))), .second] [(.ref b57)])
      obtain ⟨cq89, kq89, q89a, q89b, q89c⟩ := isOf hZ e88 f83_521
      obtain ⟨v89, _, ⟨T89, L89, k89, n89⟩, -, X89, ⟨Lc89, hQ89, l89, y89, z89⟩, st89⟩ := X88.virtualBack hx (y := (⟨"com/example/interleave/interleave/Tally", "started", "()J"⟩ : MethodName)) (z := (⟨"com/example/interleave/interleave/Tally", "started", "()J"⟩ : MethodName)) hown (mvT hZ (hw _ (List.mem_of_getElem? (i := 58) rfl))) (mvT hZ (hw _ (List.mem_of_getElem? (i := 59) rfl))) (notFace_of_selects (args := #[]) (mvT hZ (hw _ (List.mem_of_getElem? (i := 61) rfl)))) (mvT hZ (hw _ (List.mem_of_getElem? (i := 61) rfl))) (mvT hZ (hw _ (List.mem_of_getElem? (i := 60) rfl))) (by decide) (backOf (W := 0) (rm_gstarted l Z a0 hw [] b57 (0 : Int64) h82 n0 Z84 t82_st) hZ (hw _ (List.mem_of_getElem? (i := 62) rfl)) (hw _ (List.mem_of_getElem? (i := 3) rfl)) (by decide) (by decide)) q89a q89c (g := (mkF mt 202 #[.val (.long a0_), .second, .val (.long b0_), .second, .val (.long c0_), .second, .val (.int n_), .val (.long xx), .second, .val (.long yy), .second, .val (.long zz), .second, .val (.int (2 : Int32)), .val (.ref b57), .val (.long (((0 : Int64) + xx) + yy)), .second, .val (.long m1), .second, .val (.long ((((0 : Int64) + xx) + yy) / ((2 : Int32).toInt64))), .second] [(.ref b57)])) rfl (by rw [hml]; rfl) (Steps.refl _) (argsL := []) (rest := []) (lenOf pd_2 rfl) rfl (by show 2 * 0 + _ ≤ _; exact Nat.le_of_eq rfl) (hb hby at_202) (fun _ _ => ⟨rfl, e88, (by decide : 2 + 0 ≤ _), (by decide : 15 + 0 ≤ _)⟩)
      dsimp only [Pt.U, Pt.locs, Pt.cells, Pt.slots] at X89 l89 y89 z89 st89 hQ89
      subst y89 z89
      replace X89 : Stand p l e _ s mt args below meth cd T89 L89 2 15 := X89
      obtain ⟨h89, e89⟩ : ∃ z, T89.heap = z := ⟨_, rfl⟩
      rw [e89] at hQ89
      obtain ⟨rfl, Nq89, eh89⟩ := hQ89
      have N89 : Fr n0 L89 := by rw [l89]; exact Fr.app N88 Nq89
      rw [eh89] at e89
      refine Win.tr ?_ st89
      show Win p e below _ T89 (mkF mt 205 #[.val (.long a0_), .second, .val (.long b0_), .second, .val (.long c0_), .second, .val (.int n_), .val (.long xx), .second, .val (.long yy), .second, .val (.long zz), .second, .val (.int (2 : Int32)), .val (.ref b57), .val (.long (((0 : Int64) + xx) + yy)), .second, .val (.long m1), .second, .val (.long ((((0 : Int64) + xx) + yy) / ((2 : Int32).toInt64))), .second] [(.long (0 : Int64))])
      refine Win.st ?_ (fun tq kq => XS.lconst X89.here hx rfl (hb hby at_205) kq)
      show Win p e below _ T89 (mkF mt 206 #[.val (.long a0_), .second, .val (.long b0_), .second, .val (.long c0_), .second, .val (.int n_), .val (.long xx), .second, .val (.long yy), .second, .val (.long zz), .second, .val (.int (2 : Int32)), .val (.ref b57), .val (.long (((0 : Int64) + xx) + yy)), .second, .val (.long m1), .second, .val (.long ((((0 : Int64) + xx) + yy) / ((2 : Int32).toInt64))), .second] [(.long (0 : Int64)), (.long (0 : Int64))])
      refine Win.st ?_ (fun tq kq => XS.lcmp X89.here hx rfl (hb hby at_206) rfl kq)
      show Win p e below _ T89 (mkF mt 207 #[.val (.long a0_), .second, .val (.long b0_), .second, .val (.long c0_), .second, .val (.int n_), .val (.long xx), .second, .val (.long yy), .second, .val (.long zz), .second, .val (.int (2 : Int32)), .val (.ref b57), .val (.long (((0 : Int64) + xx) + yy)), .second, .val (.long m1), .second, .val (.long ((((0 : Int64) + xx) + yy) / ((2 : Int32).toInt64))), .second] [(.int (lcmpW (0 : Int64) (0 : Int64)))])
      refine Win.st ?_ (fun tq kq => XS.ifNo X89.here hx rfl (hb hby at_207) rfl ((if0 _ _).trans (teq ((lw_eq _ _).mpr rfl)).2) kq)
      show Win p e below _ T89 (mkF mt 210 #[.val (.long a0_), .second, .val (.long b0_), .second, .val (.long c0_), .second, .val (.int n_), .val (.long xx), .second, .val (.long yy), .second, .val (.long zz), .second, .val (.int (2 : Int32)), .val (.ref b57), .val (.long (((0 : Int64) + xx) + yy)), .second, .val (.long m1), .second, .val (.long ((((0 : Int64) + xx) + yy) / ((2 : Int32).toInt64))), .second] [])
      refine Win.st ?_ (fun tq kq => XS.aload X89.here hx rfl (hb hby at_210) rfl rfl kq)
      show Win p e below _ T89 (mkF mt 212 #[.val (.long a0_), .second, .val (.long b0_), .second, .val (.long c0_), .second, .val (.int n_), .val (.long xx), .second, .val (.long yy), .second, .val (.long zz), .second, .val (.int (2 : Int32)), .val (.ref b57), .val (.long (((0 : Int64) + xx) + yy)), .second, .val (.long m1), .second, .val (.long ((((0 : Int64) + xx) + yy) / ((2 : Int32).toInt64))), .second] [(.ref b57)])
      obtain ⟨cq90, kq90, q90a, q90b, q90c⟩ := isOf hZ e89 f83_521
      obtain ⟨v90, _, ⟨T90, L90, k90, n90⟩, -, X90, ⟨Lc90, hQ90, l90, y90, z90⟩, st90⟩ := X89.virtualBack hx (y := (⟨"com/example/interleave/interleave/Tally", "failed", "()J"⟩ : MethodName)) (z := (⟨"com/example/interleave/interleave/Tally", "failed", "()J"⟩ : MethodName)) hown (mvT hZ (hw _ (List.mem_of_getElem? (i := 65) rfl))) (mvT hZ (hw _ (List.mem_of_getElem? (i := 66) rfl))) (notFace_of_selects (args := #[]) (mvT hZ (hw _ (List.mem_of_getElem? (i := 68) rfl)))) (mvT hZ (hw _ (List.mem_of_getElem? (i := 68) rfl))) (mvT hZ (hw _ (List.mem_of_getElem? (i := 67) rfl))) (by decide) (backOf (W := 0) (rm_gfailed l Z a0 hw [] b57 (0 : Int64) h82 n0 Z84 t82_fa) hZ (hw _ (List.mem_of_getElem? (i := 69) rfl)) (hw _ (List.mem_of_getElem? (i := 3) rfl)) (by decide) (by decide)) q90a q90c (g := (mkF mt 212 #[.val (.long a0_), .second, .val (.long b0_), .second, .val (.long c0_), .second, .val (.int n_), .val (.long xx), .second, .val (.long yy), .second, .val (.long zz), .second, .val (.int (2 : Int32)), .val (.ref b57), .val (.long (((0 : Int64) + xx) + yy)), .second, .val (.long m1), .second, .val (.long ((((0 : Int64) + xx) + yy) / ((2 : Int32).toInt64))), .second] [(.ref b57)])) rfl (by rw [hml]; rfl) (Steps.refl _) (argsL := []) (rest := []) (lenOf pd_2 rfl) rfl (by show 2 * 0 + _ ≤ _; exact Nat.le_of_eq rfl) (hb hby at_212) (fun _ _ => ⟨rfl, e89, (by decide : 2 + 0 ≤ _), (by decide : 15 + 0 ≤ _)⟩)
      dsimp only [Pt.U, Pt.locs, Pt.cells, Pt.slots] at X90 l90 y90 z90 st90 hQ90
      subst y90 z90
      replace X90 : Stand p l e _ s mt args below meth cd T90 L90 2 15 := X90
      obtain ⟨h90, e90⟩ : ∃ z, T90.heap = z := ⟨_, rfl⟩
      rw [e90] at hQ90
      obtain ⟨rfl, Nq90, eh90⟩ := hQ90
      have N90 : Fr n0 L90 := by rw [l90]; exact Fr.app N89 Nq90
      rw [eh90] at e90
      refine Win.tr ?_ st90
      show Win p e below _ T90 (mkF mt 215 #[.val (.long a0_), .second, .val (.long b0_), .second, .val (.long c0_), .second, .val (.int n_), .val (.long xx), .second, .val (.long yy), .second, .val (.long zz), .second, .val (.int (2 : Int32)), .val (.ref b57), .val (.long (((0 : Int64) + xx) + yy)), .second, .val (.long m1), .second, .val (.long ((((0 : Int64) + xx) + yy) / ((2 : Int32).toInt64))), .second] [(.long (0 : Int64))])
      refine Win.st ?_ (fun tq kq => XS.lconst X90.here hx rfl (hb hby at_215) kq)
      show Win p e below _ T90 (mkF mt 216 #[.val (.long a0_), .second, .val (.long b0_), .second, .val (.long c0_), .second, .val (.int n_), .val (.long xx), .second, .val (.long yy), .second, .val (.long zz), .second, .val (.int (2 : Int32)), .val (.ref b57), .val (.long (((0 : Int64) + xx) + yy)), .second, .val (.long m1), .second, .val (.long ((((0 : Int64) + xx) + yy) / ((2 : Int32).toInt64))), .second] [(.long (0 : Int64)), (.long (0 : Int64))])
      refine Win.st ?_ (fun tq kq => XS.lcmp X90.here hx rfl (hb hby at_216) rfl kq)
      show Win p e below _ T90 (mkF mt 217 #[.val (.long a0_), .second, .val (.long b0_), .second, .val (.long c0_), .second, .val (.int n_), .val (.long xx), .second, .val (.long yy), .second, .val (.long zz), .second, .val (.int (2 : Int32)), .val (.ref b57), .val (.long (((0 : Int64) + xx) + yy)), .second, .val (.long m1), .second, .val (.long ((((0 : Int64) + xx) + yy) / ((2 : Int32).toInt64))), .second] [(.int (lcmpW (0 : Int64) (0 : Int64)))])
      refine Win.st ?_ (fun tq kq => XS.ifNo X90.here hx rfl (hb hby at_217) rfl ((if0 _ _).trans (teq ((lw_eq _ _).mpr rfl)).2) kq)
      show Win p e below _ T90 (mkF mt 220 #[.val (.long a0_), .second, .val (.long b0_), .second, .val (.long c0_), .second, .val (.int n_), .val (.long xx), .second, .val (.long yy), .second, .val (.long zz), .second, .val (.int (2 : Int32)), .val (.ref b57), .val (.long (((0 : Int64) + xx) + yy)), .second, .val (.long m1), .second, .val (.long ((((0 : Int64) + xx) + yy) / ((2 : Int32).toInt64))), .second] [])
      refine Win.st ?_ (fun tq kq => XS.aload X90.here hx rfl (hb hby at_220) rfl rfl kq)
      show Win p e below _ T90 (mkF mt 222 #[.val (.long a0_), .second, .val (.long b0_), .second, .val (.long c0_), .second, .val (.int n_), .val (.long xx), .second, .val (.long yy), .second, .val (.long zz), .second, .val (.int (2 : Int32)), .val (.ref b57), .val (.long (((0 : Int64) + xx) + yy)), .second, .val (.long m1), .second, .val (.long ((((0 : Int64) + xx) + yy) / ((2 : Int32).toInt64))), .second] [(.ref b57)])
      obtain ⟨cq91, kq91, q91a, q91b, q91c⟩ := isOf hZ e90 f83_521
      obtain ⟨v91, _, ⟨T91, L91, k91, n91⟩, -, X91, ⟨Lc91, hQ91, l91, y91, z91⟩, st91⟩ := X90.virtualBack hx (y := (⟨"com/example/interleave/interleave/Tally", "retried", "()J"⟩ : MethodName)) (z := (⟨"com/example/interleave/interleave/Tally", "retried", "()J"⟩ : MethodName)) hown (mvT hZ (hw _ (List.mem_of_getElem? (i := 72) rfl))) (mvT hZ (hw _ (List.mem_of_getElem? (i := 73) rfl))) (notFace_of_selects (args := #[]) (mvT hZ (hw _ (List.mem_of_getElem? (i := 75) rfl)))) (mvT hZ (hw _ (List.mem_of_getElem? (i := 75) rfl))) (mvT hZ (hw _ (List.mem_of_getElem? (i := 74) rfl))) (by decide) (backOf (W := 0) (rm_gretried l Z a0 hw [] b57 (0 : Int64) h82 n0 Z84 t82_re) hZ (hw _ (List.mem_of_getElem? (i := 76) rfl)) (hw _ (List.mem_of_getElem? (i := 3) rfl)) (by decide) (by decide)) q91a q91c (g := (mkF mt 222 #[.val (.long a0_), .second, .val (.long b0_), .second, .val (.long c0_), .second, .val (.int n_), .val (.long xx), .second, .val (.long yy), .second, .val (.long zz), .second, .val (.int (2 : Int32)), .val (.ref b57), .val (.long (((0 : Int64) + xx) + yy)), .second, .val (.long m1), .second, .val (.long ((((0 : Int64) + xx) + yy) / ((2 : Int32).toInt64))), .second] [(.ref b57)])) rfl (by rw [hml]; rfl) (Steps.refl _) (argsL := []) (rest := []) (lenOf pd_2 rfl) rfl (by show 2 * 0 + _ ≤ _; exact Nat.le_of_eq rfl) (hb hby at_222) (fun _ _ => ⟨rfl, e90, (by decide : 2 + 0 ≤ _), (by decide : 15 + 0 ≤ _)⟩)
      dsimp only [Pt.U, Pt.locs, Pt.cells, Pt.slots] at X91 l91 y91 z91 st91 hQ91
      subst y91 z91
      replace X91 : Stand p l e _ s mt args below meth cd T91 L91 2 15 := X91
      obtain ⟨h91, e91⟩ : ∃ z, T91.heap = z := ⟨_, rfl⟩
      rw [e91] at hQ91
      obtain ⟨rfl, Nq91, eh91⟩ := hQ91
      have N91 : Fr n0 L91 := by rw [l91]; exact Fr.app N90 Nq91
      rw [eh91] at e91
      refine Win.tr ?_ st91
      show Win p e below _ T91 (mkF mt 225 #[.val (.long a0_), .second, .val (.long b0_), .second, .val (.long c0_), .second, .val (.int n_), .val (.long xx), .second, .val (.long yy), .second, .val (.long zz), .second, .val (.int (2 : Int32)), .val (.ref b57), .val (.long (((0 : Int64) + xx) + yy)), .second, .val (.long m1), .second, .val (.long ((((0 : Int64) + xx) + yy) / ((2 : Int32).toInt64))), .second] [(.long (0 : Int64))])
      refine Win.st ?_ (fun tq kq => XS.lconst X91.here hx rfl (hb hby at_225) kq)
      show Win p e below _ T91 (mkF mt 226 #[.val (.long a0_), .second, .val (.long b0_), .second, .val (.long c0_), .second, .val (.int n_), .val (.long xx), .second, .val (.long yy), .second, .val (.long zz), .second, .val (.int (2 : Int32)), .val (.ref b57), .val (.long (((0 : Int64) + xx) + yy)), .second, .val (.long m1), .second, .val (.long ((((0 : Int64) + xx) + yy) / ((2 : Int32).toInt64))), .second] [(.long (0 : Int64)), (.long (0 : Int64))])
      refine Win.st ?_ (fun tq kq => XS.lcmp X91.here hx rfl (hb hby at_226) rfl kq)
      show Win p e below _ T91 (mkF mt 227 #[.val (.long a0_), .second, .val (.long b0_), .second, .val (.long c0_), .second, .val (.int n_), .val (.long xx), .second, .val (.long yy), .second, .val (.long zz), .second, .val (.int (2 : Int32)), .val (.ref b57), .val (.long (((0 : Int64) + xx) + yy)), .second, .val (.long m1), .second, .val (.long ((((0 : Int64) + xx) + yy) / ((2 : Int32).toInt64))), .second] [(.int (lcmpW (0 : Int64) (0 : Int64)))])
      refine Win.st ?_ (fun tq kq => XS.ifNo X91.here hx rfl (hb hby at_227) rfl ((if0 _ _).trans (teq ((lw_eq _ _).mpr rfl)).2) kq)
      show Win p e below _ T91 (mkF mt 230 #[.val (.long a0_), .second, .val (.long b0_), .second, .val (.long c0_), .second, .val (.int n_), .val (.long xx), .second, .val (.long yy), .second, .val (.long zz), .second, .val (.int (2 : Int32)), .val (.ref b57), .val (.long (((0 : Int64) + xx) + yy)), .second, .val (.long m1), .second, .val (.long ((((0 : Int64) + xx) + yy) / ((2 : Int32).toInt64))), .second] [])
      refine Win.st ?_ (fun tq kq => XS.iconst X91.here hx rfl (hb hby at_230) kq)
      show Win p e below _ T91 (mkF mt 231 #[.val (.long a0_), .second, .val (.long b0_), .second, .val (.long c0_), .second, .val (.int n_), .val (.long xx), .second, .val (.long yy), .second, .val (.long zz), .second, .val (.int (2 : Int32)), .val (.ref b57), .val (.long (((0 : Int64) + xx) + yy)), .second, .val (.long m1), .second, .val (.long ((((0 : Int64) + xx) + yy) / ((2 : Int32).toInt64))), .second] [(.int (1 : Int32))])
      refine Win.st ?_ (fun tq kq => XS.goto X91.here hx rfl (pc0 := 231) (pc' := 235) rfl (hb hby at_231) (by decide) (by decide) kq)
      show Win p e below _ T91 (mkF mt 235 #[.val (.long a0_), .second, .val (.long b0_), .second, .val (.long c0_), .second, .val (.int n_), .val (.long xx), .second, .val (.long yy), .second, .val (.long zz), .second, .val (.int (2 : Int32)), .val (.ref b57), .val (.long (((0 : Int64) + xx) + yy)), .second, .val (.long m1), .second, .val (.long ((((0 : Int64) + xx) + yy) / ((2 : Int32).toInt64))), .second] [(.int (1 : Int32))])
      exact Win.retN X91 hx hlk e91 (t := .boolean) (z' := (1 : Int32)) hrt (by simp) (hb hby at_235) (by decide) (by decide) rfl ⟨rfl, N91⟩
    by_cases hc117 : (0 : Int32) < (lcmpW yy xx)
    · refine Win.st ?_ (fun tq kq => XS.ifNo X82.here hx rfl (hb hby at_117) rfl ((if0 _ _).trans (tlt hc117).2.2.2) kq)
      show Win p e below _ T82 (mkF mt 120 #[.val (.long a0_), .second, .val (.long b0_), .second, .val (.long c0_), .second, .val (.int n_), .val (.long xx), .second, .val (.long yy), .second, .val (.long zz), .second, .val (.int (2 : Int32)), .val (.ref b57), .val (.long (((0 : Int64) + xx) + yy)), .second, .val (.long xx), .second, .unset, .unset] [])
      refine Win.st ?_ (fun tq kq => XS.lload X82.here hx rfl (hb hby at_120) rfl kq)
      show Win p e below _ T82 (mkF mt 122 #[.val (.long a0_), .second, .val (.long b0_), .second, .val (.long c0_), .second, .val (.int n_), .val (.long xx), .second, .val (.long yy), .second, .val (.long zz), .second, .val (.int (2 : Int32)), .val (.ref b57), .val (.long (((0 : Int64) + xx) + yy)), .second, .val (.long xx), .second, .unset, .unset] [(.long yy)])
      refine Win.st ?_ (fun tq kq => XS.lstore X82.here hx rfl (hb hby at_122) rfl (l' := #[.val (.long a0_), .second, .val (.long b0_), .second, .val (.long c0_), .second, .val (.int n_), .val (.long xx), .second, .val (.long yy), .second, .val (.long zz), .second, .val (.int (2 : Int32)), .val (.ref b57), .val (.long (((0 : Int64) + xx) + yy)), .second, .val (.long yy), .second, .unset, .unset]) rfl kq)
      show Win p e below _ T82 (mkF mt 124 #[.val (.long a0_), .second, .val (.long b0_), .second, .val (.long c0_), .second, .val (.int n_), .val (.long xx), .second, .val (.long yy), .second, .val (.long zz), .second, .val (.int (2 : Int32)), .val (.ref b57), .val (.long (((0 : Int64) + xx) + yy)), .second, .val (.long yy), .second, .unset, .unset] [])
      exact jm1 T82 _ (yy) X82 e82 N82 ((own_maxY hc117).symm)
    · refine Win.st ?_ (fun tq kq => XS.ifYes X82.here hx rfl (pc0 := 117) (pc' := 124) rfl (hb hby at_117) rfl ((if0 _ _).trans (flt hc117).2.2.2) (by decide) (by decide) kq)
      show Win p e below _ T82 (mkF mt 124 #[.val (.long a0_), .second, .val (.long b0_), .second, .val (.long c0_), .second, .val (.int n_), .val (.long xx), .second, .val (.long yy), .second, .val (.long zz), .second, .val (.int (2 : Int32)), .val (.ref b57), .val (.long (((0 : Int64) + xx) + yy)), .second, .val (.long xx), .second, .unset, .unset] [])
      exact jm1 T82 _ (xx) X82 e82 N82 ((own_maxN hc117).symm)
  · show Win p e below _ T61 (mkF mt 37 #[.val (.long a0_), .second, .val (.long b0_), .second, .val (.long c0_), .second, .val (.int n_), .val (.long xx), .second, .val (.long yy), .second, .val (.long zz), .second, .val (.int (3 : Int32)), .val (.ref b57), .unset, .unset, .unset, .unset, .unset, .unset] [])
    refine Win.st ?_ (fun tq kq => XS.iload X61.here hx rfl (hb hby at_37) rfl kq)
    show Win p e below _ T61 (mkF mt 39 #[.val (.long a0_), .second, .val (.long b0_), .second, .val (.long c0_), .second, .val (.int n_), .val (.long xx), .second, .val (.long yy), .second, .val (.long zz), .second, .val (.int (3 : Int32)), .val (.ref b57), .unset, .unset, .unset, .unset, .unset, .unset] [(.int (3 : Int32))])
    refine Win.st ?_ (fun tq kq => XS.iconst X61.here hx rfl (hb hby at_39) kq)
    show Win p e below _ T61 (mkF mt 40 #[.val (.long a0_), .second, .val (.long b0_), .second, .val (.long c0_), .second, .val (.int n_), .val (.long xx), .second, .val (.long yy), .second, .val (.long zz), .second, .val (.int (3 : Int32)), .val (.ref b57), .unset, .unset, .unset, .unset, .unset, .unset] [(.int (1 : Int32)), (.int (3 : Int32))])
    refine Win.st ?_ (fun tq kq => XS.icmpNo X61.here hx rfl (hb hby at_40) rfl (flt (by decide : ¬ ((3 : Int32) < (1 : Int32)))).1 kq)
    show Win p e below _ T61 (mkF mt 43 #[.val (.long a0_), .second, .val (.long b0_), .second, .val (.long c0_), .second, .val (.int n_), .val (.long xx), .second, .val (.long yy), .second, .val (.long zz), .second, .val (.int (3 : Int32)), .val (.ref b57), .unset, .unset, .unset, .unset, .unset, .unset] [])
    refine Win.st ?_ (fun tq kq => XS.aload X61.here hx rfl (hb hby at_43) rfl rfl kq)
    show Win p e below _ T61 (mkF mt 45 #[.val (.long a0_), .second, .val (.long b0_), .second, .val (.long c0_), .second, .val (.int n_), .val (.long xx), .second, .val (.long yy), .second, .val (.long zz), .second, .val (.int (3 : Int32)), .val (.ref b57), .unset, .unset, .unset, .unset, .unset, .unset] [(.ref b57)])
    refine Win.st ?_ (fun tq kq => XS.lload X61.here hx rfl (hb hby at_45) rfl kq)
    show Win p e below _ T61 (mkF mt 47 #[.val (.long a0_), .second, .val (.long b0_), .second, .val (.long c0_), .second, .val (.int n_), .val (.long xx), .second, .val (.long yy), .second, .val (.long zz), .second, .val (.int (3 : Int32)), .val (.ref b57), .unset, .unset, .unset, .unset, .unset, .unset] [(.long xx), (.ref b57)])
    obtain ⟨cq92, kq92, q92a, q92b, q92c⟩ := isOf hZ e61 f62_74
    obtain ⟨v92, _, ⟨T92, L92, k92, n92⟩, -, X92, ⟨Lc92, hQ92, l92, y92, z92⟩, st92⟩ := X61.virtualBack hx (y := (⟨"com/example/interleave/interleave/Tally", "commit", "(J)V"⟩ : MethodName)) (z := (⟨"com/example/interleave/interleave/Tally", "commit", "(J)V"⟩ : MethodName)) hown (mvT hZ (hw _ (List.mem_of_getElem? (i := 28) rfl))) (mvT hZ (hw _ (List.mem_of_getElem? (i := 29) rfl))) (notFace_of_selects (args := #[]) (mvT hZ (hw _ (List.mem_of_getElem? (i := 31) rfl)))) (mvT hZ (hw _ (List.mem_of_getElem? (i := 31) rfl))) (mvT hZ (hw _ (List.mem_of_getElem? (i := 30) rfl))) (by decide) (backOf (W := 0) (rm_tcommit l Z a0 hw [] b57 xx (0 : Int64) (0 : Int64) (0 : Int64) (0 : Int64) (0 : Int64) (0 : Int64) h61 n0 Z63 f62_74 t61_st t61_cm t61_nn t61_lo t61_re t61_fa g58) hZ (hw _ (List.mem_of_getElem? (i := 32) rfl)) (hw _ (List.mem_of_getElem? (i := 3) rfl)) (by decide) (by decide)) q92a q92c (g := (mkF mt 47 #[.val (.long a0_), .second, .val (.long b0_), .second, .val (.long c0_), .second, .val (.int n_), .val (.long xx), .second, .val (.long yy), .second, .val (.long zz), .second, .val (.int (3 : Int32)), .val (.ref b57), .unset, .unset, .unset, .unset, .unset, .unset] [(.long xx), (.ref b57)])) rfl (by rw [hml]; rfl) (Steps.refl _) (argsL := [(.long xx)]) (rest := []) (lenOf pd_3 rfl) rfl (by show 2 * 0 + _ ≤ _; exact Nat.le_of_eq rfl) (hb hby at_47) (fun _ _ => ⟨rfl, e61, (by decide : 2 + 0 ≤ _), (by decide : 15 + 0 ≤ _)⟩)
    dsimp only [Pt.U, Pt.locs, Pt.cells, Pt.slots] at X92 l92 y92 z92 st92 hQ92
    subst y92 z92
    replace X92 : Stand p l e _ s mt args below meth cd T92 L92 2 15 := X92
    obtain ⟨h92, e92⟩ : ∃ z, T92.heap = z := ⟨_, rfl⟩
    rw [e92] at hQ92
    obtain ⟨rfl, Nq92, K92, t92_st, t92_cm, t92_nn, t92_lo, t92_re, t92_fa⟩ := hQ92
    have N92 : Fr n0 L92 := by rw [l92]; exact Fr.app N61 Nq92
    have f93_757 := f62_74.keep K92
    have Z94 : n0 ≤ h92.size := Nat.le_trans Z63 K92.1
    refine Win.tr ?_ st92
    show Win p e below _ T92 (mkF mt 50 #[.val (.long a0_), .second, .val (.long b0_), .second, .val (.long c0_), .second, .val (.int n_), .val (.long xx), .second, .val (.long yy), .second, .val (.long zz), .second, .val (.int (3 : Int32)), .val (.ref b57), .unset, .unset, .unset, .unset, .unset, .unset] [])
    refine Win.st ?_ (fun tq kq => XS.iload X92.here hx rfl (hb hby at_50) rfl kq)
    show Win p e below _ T92 (mkF mt 52 #[.val (.long a0_), .second, .val (.long b0_), .second, .val (.long c0_), .second, .val (.int n_), .val (.long xx), .second, .val (.long yy), .second, .val (.long zz), .second, .val (.int (3 : Int32)), .val (.ref b57), .unset, .unset, .unset, .unset, .unset, .unset] [(.int (3 : Int32))])
    refine Win.st ?_ (fun tq kq => XS.iconst X92.here hx rfl (hb hby at_52) kq)
    show Win p e below _ T92 (mkF mt 53 #[.val (.long a0_), .second, .val (.long b0_), .second, .val (.long c0_), .second, .val (.int n_), .val (.long xx), .second, .val (.long yy), .second, .val (.long zz), .second, .val (.int (3 : Int32)), .val (.ref b57), .unset, .unset, .unset, .unset, .unset, .unset] [(.int (2 : Int32)), (.int (3 : Int32))])
    refine Win.st ?_ (fun tq kq => XS.icmpNo X92.here hx rfl (hb hby at_53) rfl (flt (by decide : ¬ ((3 : Int32) < (2 : Int32)))).1 kq)
    show Win p e below _ T92 (mkF mt 56 #[.val (.long a0_), .second, .val (.long b0_), .second, .val (.long c0_), .second, .val (.int n_), .val (.long xx), .second, .val (.long yy), .second, .val (.long zz), .second, .val (.int (3 : Int32)), .val (.ref b57), .unset, .unset, .unset, .unset, .unset, .unset] [])
    refine Win.st ?_ (fun tq kq => XS.aload X92.here hx rfl (hb hby at_56) rfl rfl kq)
    show Win p e below _ T92 (mkF mt 58 #[.val (.long a0_), .second, .val (.long b0_), .second, .val (.long c0_), .second, .val (.int n_), .val (.long xx), .second, .val (.long yy), .second, .val (.long zz), .second, .val (.int (3 : Int32)), .val (.ref b57), .unset, .unset, .unset, .unset, .unset, .unset] [(.ref b57)])
    refine Win.st ?_ (fun tq kq => XS.lload X92.here hx rfl (hb hby at_58) rfl kq)
    show Win p e below _ T92 (mkF mt 60 #[.val (.long a0_), .second, .val (.long b0_), .second, .val (.long c0_), .second, .val (.int n_), .val (.long xx), .second, .val (.long yy), .second, .val (.long zz), .second, .val (.int (3 : Int32)), .val (.ref b57), .unset, .unset, .unset, .unset, .unset, .unset] [(.long yy), (.ref b57)])
    obtain ⟨cq95, kq95, q95a, q95b, q95c⟩ := isOf hZ e92 f93_757
    obtain ⟨v95, _, ⟨T95, L95, k95, n95⟩, -, X95, ⟨Lc95, hQ95, l95, y95, z95⟩, st95⟩ := X92.virtualBack hx (y := (⟨"com/example/interleave/interleave/Tally", "commit", "(J)V"⟩ : MethodName)) (z := (⟨"com/example/interleave/interleave/Tally", "commit", "(J)V"⟩ : MethodName)) hown (mvT hZ (hw _ (List.mem_of_getElem? (i := 28) rfl))) (mvT hZ (hw _ (List.mem_of_getElem? (i := 29) rfl))) (notFace_of_selects (args := #[]) (mvT hZ (hw _ (List.mem_of_getElem? (i := 31) rfl)))) (mvT hZ (hw _ (List.mem_of_getElem? (i := 31) rfl))) (mvT hZ (hw _ (List.mem_of_getElem? (i := 30) rfl))) (by decide) (backOf (W := 0) (rm_tcommit l Z a0 hw [] b57 yy (0 : Int64) ((0 : Int64) + (1 : Int64)) ((0 : Int64) + xx) (own_maxL (0 : Int64) xx) (0 : Int64) (0 : Int64) h92 n0 Z94 f93_757 t92_st t92_cm t92_nn t92_lo t92_re t92_fa g58) hZ (hw _ (List.mem_of_getElem? (i := 32) rfl)) (hw _ (List.mem_of_getElem? (i := 3) rfl)) (by decide) (by decide)) q95a q95c (g := (mkF mt 60 #[.val (.long a0_), .second, .val (.long b0_), .second, .val (.long c0_), .second, .val (.int n_), .val (.long xx), .second, .val (.long yy), .second, .val (.long zz), .second, .val (.int (3 : Int32)), .val (.ref b57), .unset, .unset, .unset, .unset, .unset, .unset] [(.long yy), (.ref b57)])) rfl (by rw [hml]; rfl) (Steps.refl _) (argsL := [(.long yy)]) (rest := []) (lenOf pd_3 rfl) rfl (by show 2 * 0 + _ ≤ _; exact Nat.le_of_eq rfl) (hb hby at_60) (fun _ _ => ⟨rfl, e92, (by decide : 2 + 0 ≤ _), (by decide : 15 + 0 ≤ _)⟩)
    dsimp only [Pt.U, Pt.locs, Pt.cells, Pt.slots] at X95 l95 y95 z95 st95 hQ95
    subst y95 z95
    replace X95 : Stand p l e _ s mt args below meth cd T95 L95 2 15 := X95
    obtain ⟨h95, e95⟩ : ∃ z, T95.heap = z := ⟨_, rfl⟩
    rw [e95] at hQ95
    obtain ⟨rfl, Nq95, K95, t95_st, t95_cm, t95_nn, t95_lo, t95_re, t95_fa⟩ := hQ95
    have N95 : Fr n0 L95 := by rw [l95]; exact Fr.app N92 Nq95
    have f96_780 := f93_757.keep K95
    have Z97 : n0 ≤ h95.size := Nat.le_trans Z94 K95.1
    refine Win.tr ?_ st95
    show Win p e below _ T95 (mkF mt 63 #[.val (.long a0_), .second, .val (.long b0_), .second, .val (.long c0_), .second, .val (.int n_), .val (.long xx), .second, .val (.long yy), .second, .val (.long zz), .second, .val (.int (3 : Int32)), .val (.ref b57), .unset, .unset, .unset, .unset, .unset, .unset] [])
    refine Win.st ?_ (fun tq kq => XS.iload X95.here hx rfl (hb hby at_63) rfl kq)
    show Win p e below _ T95 (mkF mt 65 #[.val (.long a0_), .second, .val (.long b0_), .second, .val (.long c0_), .second, .val (.int n_), .val (.long xx), .second, .val (.long yy), .second, .val (.long zz), .second, .val (.int (3 : Int32)), .val (.ref b57), .unset, .unset, .unset, .unset, .unset, .unset] [(.int (3 : Int32))])
    refine Win.st ?_ (fun tq kq => XS.iconst X95.here hx rfl (hb hby at_65) kq)
    show Win p e below _ T95 (mkF mt 66 #[.val (.long a0_), .second, .val (.long b0_), .second, .val (.long c0_), .second, .val (.int n_), .val (.long xx), .second, .val (.long yy), .second, .val (.long zz), .second, .val (.int (3 : Int32)), .val (.ref b57), .unset, .unset, .unset, .unset, .unset, .unset] [(.int (3 : Int32)), (.int (3 : Int32))])
    refine Win.st ?_ (fun tq kq => XS.icmpNo X95.here hx rfl (hb hby at_66) rfl (flt (Int32.lt_irrefl)).1 kq)
    show Win p e below _ T95 (mkF mt 69 #[.val (.long a0_), .second, .val (.long b0_), .second, .val (.long c0_), .second, .val (.int n_), .val (.long xx), .second, .val (.long yy), .second, .val (.long zz), .second, .val (.int (3 : Int32)), .val (.ref b57), .unset, .unset, .unset, .unset, .unset, .unset] [])
    refine Win.st ?_ (fun tq kq => XS.aload X95.here hx rfl (hb hby at_69) rfl rfl kq)
    show Win p e below _ T95 (mkF mt 71 #[.val (.long a0_), .second, .val (.long b0_), .second, .val (.long c0_), .second, .val (.int n_), .val (.long xx), .second, .val (.long yy), .second, .val (.long zz), .second, .val (.int (3 : Int32)), .val (.ref b57), .unset, .unset, .unset, .unset, .unset, .unset] [(.ref b57)])
    refine Win.st ?_ (fun tq kq => XS.lload X95.here hx rfl (hb hby at_71) rfl kq)
    show Win p e below _ T95 (mkF mt 73 #[.val (.long a0_), .second, .val (.long b0_), .second, .val (.long c0_), .second, .val (.int n_), .val (.long xx), .second, .val (.long yy), .second, .val (.long zz), .second, .val (.int (3 : Int32)), .val (.ref b57), .unset, .unset, .unset, .unset, .unset, .unset] [(.long zz), (.ref b57)])
    obtain ⟨cq98, kq98, q98a, q98b, q98c⟩ := isOf hZ e95 f96_780
    obtain ⟨v98, _, ⟨T98, L98, k98, n98⟩, -, X98, ⟨Lc98, hQ98, l98, y98, z98⟩, st98⟩ := X95.virtualBack hx (y := (⟨"com/example/interleave/interleave/Tally", "commit", "(J)V"⟩ : MethodName)) (z := (⟨"com/example/interleave/interleave/Tally", "commit", "(J)V"⟩ : MethodName)) hown (mvT hZ (hw _ (List.mem_of_getElem? (i := 28) rfl))) (mvT hZ (hw _ (List.mem_of_getElem? (i := 29) rfl))) (notFace_of_selects (args := #[]) (mvT hZ (hw _ (List.mem_of_getElem? (i := 31) rfl)))) (mvT hZ (hw _ (List.mem_of_getElem? (i := 31) rfl))) (mvT hZ (hw _ (List.mem_of_getElem? (i := 30) rfl))) (by decide) (backOf (W := 0) (rm_tcommit l Z a0 hw [] b57 zz (0 : Int64) (((0 : Int64) + (1 : Int64)) + (1 : Int64)) (((0 : Int64) + xx) + yy) (own_maxL (own_maxL (0 : Int64) xx) yy) (0 : Int64) (0 : Int64) h95 n0 Z97 f96_780 t95_st t95_cm t95_nn t95_lo t95_re t95_fa g58) hZ (hw _ (List.mem_of_getElem? (i := 32) rfl)) (hw _ (List.mem_of_getElem? (i := 3) rfl)) (by decide) (by decide)) q98a q98c (g := (mkF mt 73 #[.val (.long a0_), .second, .val (.long b0_), .second, .val (.long c0_), .second, .val (.int n_), .val (.long xx), .second, .val (.long yy), .second, .val (.long zz), .second, .val (.int (3 : Int32)), .val (.ref b57), .unset, .unset, .unset, .unset, .unset, .unset] [(.long zz), (.ref b57)])) rfl (by rw [hml]; rfl) (Steps.refl _) (argsL := [(.long zz)]) (rest := []) (lenOf pd_3 rfl) rfl (by show 2 * 0 + _ ≤ _; exact Nat.le_of_eq rfl) (hb hby at_73) (fun _ _ => ⟨rfl, e95, (by decide : 2 + 0 ≤ _), (by decide : 15 + 0 ≤ _)⟩)
    dsimp only [Pt.U, Pt.locs, Pt.cells, Pt.slots] at X98 l98 y98 z98 st98 hQ98
    subst y98 z98
    replace X98 : Stand p l e _ s mt args below meth cd T98 L98 2 15 := X98
    obtain ⟨h98, e98⟩ : ∃ z, T98.heap = z := ⟨_, rfl⟩
    rw [e98] at hQ98
    obtain ⟨rfl, Nq98, K98, t98_st, t98_cm, t98_nn, t98_lo, t98_re, t98_fa⟩ := hQ98
    have N98 : Fr n0 L98 := by rw [l98]; exact Fr.app N95 Nq98
    have f99_803 := f96_780.keep K98
    have Z100 : n0 ≤ h98.size := Nat.le_trans Z97 K98.1
    refine Win.tr ?_ st98
    show Win p e below _ T98 (mkF mt 76 #[.val (.long a0_), .second, .val (.long b0_), .second, .val (.long c0_), .second, .val (.int n_), .val (.long xx), .second, .val (.long yy), .second, .val (.long zz), .second, .val (.int (3 : Int32)), .val (.ref b57), .unset, .unset, .unset, .unset, .unset, .unset] [])
    refine Win.st ?_ (fun tq kq => XS.lconst X98.here hx rfl (hb hby at_76) kq)
    show Win p e below _ T98 (mkF mt 77 #[.val (.long a0_), .second, .val (.long b0_), .second, .val (.long c0_), .second, .val (.int n_), .val (.long xx), .second, .val (.long yy), .second, .val (.long zz), .second, .val (.int (3 : Int32)), .val (.ref b57), .unset, .unset, .unset, .unset, .unset, .unset] [(.long (0 : Int64))])
    refine Win.st ?_ (fun tq kq => XS.lstore X98.here hx rfl (hb hby at_77) rfl (l' := #[.val (.long a0_), .second, .val (.long b0_), .second, .val (.long c0_), .second, .val (.int n_), .val (.long xx), .second, .val (.long yy), .second, .val (.long zz), .second, .val (.int (3 : Int32)), .val (.ref b57), .val (.long (0 : Int64)), .second, .unset, .unset, .unset, .unset]) rfl kq)
    show Win p e below _ T98 (mkF mt 79 #[.val (.long a0_), .second, .val (.long b0_), .second, .val (.long c0_), .second, .val (.int n_), .val (.long xx), .second, .val (.long yy), .second, .val (.long zz), .second, .val (.int (3 : Int32)), .val (.ref b57), .val (.long (0 : Int64)), .second, .unset, .unset, .unset, .unset] [])
    refine Win.st ?_ (fun tq kq => XS.lconst X98.here hx rfl (hb hby at_79) kq)
    show Win p e below _ T98 (mkF mt 80 #[.val (.long a0_), .second, .val (.long b0_), .second, .val (.long c0_), .second, .val (.int n_), .val (.long xx), .second, .val (.long yy), .second, .val (.long zz), .second, .val (.int (3 : Int32)), .val (.ref b57), .val (.long (0 : Int64)), .second, .unset, .unset, .unset, .unset] [(.long (0 : Int64))])
    refine Win.st ?_ (fun tq kq => XS.lstore X98.here hx rfl (hb hby at_80) rfl (l' := #[.val (.long a0_), .second, .val (.long b0_), .second, .val (.long c0_), .second, .val (.int n_), .val (.long xx), .second, .val (.long yy), .second, .val (.long zz), .second, .val (.int (3 : Int32)), .val (.ref b57), .val (.long (0 : Int64)), .second, .val (.long (0 : Int64)), .second, .unset, .unset]) rfl kq)
    show Win p e below _ T98 (mkF mt 82 #[.val (.long a0_), .second, .val (.long b0_), .second, .val (.long c0_), .second, .val (.int n_), .val (.long xx), .second, .val (.long yy), .second, .val (.long zz), .second, .val (.int (3 : Int32)), .val (.ref b57), .val (.long (0 : Int64)), .second, .val (.long (0 : Int64)), .second, .unset, .unset] [])
    refine Win.st ?_ (fun tq kq => XS.iload X98.here hx rfl (hb hby at_82) rfl kq)
    show Win p e below _ T98 (mkF mt 84 #[.val (.long a0_), .second, .val (.long b0_), .second, .val (.long c0_), .second, .val (.int n_), .val (.long xx), .second, .val (.long yy), .second, .val (.long zz), .second, .val (.int (3 : Int32)), .val (.ref b57), .val (.long (0 : Int64)), .second, .val (.long (0 : Int64)), .second, .unset, .unset] [(.int (3 : Int32))])
    refine Win.st ?_ (fun tq kq => XS.iconst X98.here hx rfl (hb hby at_84) kq)
    show Win p e below _ T98 (mkF mt 85 #[.val (.long a0_), .second, .val (.long b0_), .second, .val (.long c0_), .second, .val (.int n_), .val (.long xx), .second, .val (.long yy), .second, .val (.long zz), .second, .val (.int (3 : Int32)), .val (.ref b57), .val (.long (0 : Int64)), .second, .val (.long (0 : Int64)), .second, .unset, .unset] [(.int (1 : Int32)), (.int (3 : Int32))])
    refine Win.st ?_ (fun tq kq => XS.icmpNo X98.here hx rfl (hb hby at_85) rfl (flt (by decide : ¬ ((3 : Int32) < (1 : Int32)))).1 kq)
    show Win p e below _ T98 (mkF mt 88 #[.val (.long a0_), .second, .val (.long b0_), .second, .val (.long c0_), .second, .val (.int n_), .val (.long xx), .second, .val (.long yy), .second, .val (.long zz), .second, .val (.int (3 : Int32)), .val (.ref b57), .val (.long (0 : Int64)), .second, .val (.long (0 : Int64)), .second, .unset, .unset] [])
    refine Win.st ?_ (fun tq kq => XS.lload X98.here hx rfl (hb hby at_88) rfl kq)
    show Win p e below _ T98 (mkF mt 90 #[.val (.long a0_), .second, .val (.long b0_), .second, .val (.long c0_), .second, .val (.int n_), .val (.long xx), .second, .val (.long yy), .second, .val (.long zz), .second, .val (.int (3 : Int32)), .val (.ref b57), .val (.long (0 : Int64)), .second, .val (.long (0 : Int64)), .second, .unset, .unset] [(.long (0 : Int64))])
    refine Win.st ?_ (fun tq kq => XS.lload X98.here hx rfl (hb hby at_90) rfl kq)
    show Win p e below _ T98 (mkF mt 92 #[.val (.long a0_), .second, .val (.long b0_), .second, .val (.long c0_), .second, .val (.int n_), .val (.long xx), .second, .val (.long yy), .second, .val (.long zz), .second, .val (.int (3 : Int32)), .val (.ref b57), .val (.long (0 : Int64)), .second, .val (.long (0 : Int64)), .second, .unset, .unset] [(.long xx), (.long (0 : Int64))])
    refine Win.st ?_ (fun tq kq => XS.ladd X98.here hx rfl (hb hby at_92) rfl kq)
    show Win p e below _ T98 (mkF mt 93 #[.val (.long a0_), .second, .val (.long b0_), .second, .val (.long c0_), .second, .val (.int n_), .val (.long xx), .second, .val (.long yy), .second, .val (.long zz), .second, .val (.int (3 : Int32)), .val (.ref b57), .val (.long (0 : Int64)), .second, .val (.long (0 : Int64)), .second, .unset, .unset] [(.long ((0 : Int64) + xx))])
    refine Win.st ?_ (fun tq kq => XS.lstore X98.here hx rfl (hb hby at_93) rfl (l' := #[.val (.long a0_), .second, .val (.long b0_), .second, .val (.long c0_), .second, .val (.int n_), .val (.long xx), .second, .val (.long yy), .second, .val (.long zz), .second, .val (.int (3 : Int32)), .val (.ref b57), .val (.long ((0 : Int64) + xx)), .second, .val (.long (0 : Int64)), .second, .unset, .unset]) rfl kq)
    show Win p e below _ T98 (mkF mt 95 #[.val (.long a0_), .second, .val (.long b0_), .second, .val (.long c0_), .second, .val (.int n_), .val (.long xx), .second, .val (.long yy), .second, .val (.long zz), .second, .val (.int (3 : Int32)), .val (.ref b57), .val (.long ((0 : Int64) + xx)), .second, .val (.long (0 : Int64)), .second, .unset, .unset] [])
    refine Win.st ?_ (fun tq kq => XS.lload X98.here hx rfl (hb hby at_95) rfl kq)
    show Win p e below _ T98 (mkF mt 97 #[.val (.long a0_), .second, .val (.long b0_), .second, .val (.long c0_), .second, .val (.int n_), .val (.long xx), .second, .val (.long yy), .second, .val (.long zz), .second, .val (.int (3 : Int32)), .val (.ref b57), .val (.long ((0 : Int64) + xx)), .second, .val (.long (0 : Int64)), .second, .unset, .unset] [(.long xx)])
    refine Win.st ?_ (fun tq kq => XS.lstore X98.here hx rfl (hb hby at_97) rfl (l' := #[.val (.long a0_), .second, .val (.long b0_), .second, .val (.long c0_), .second, .val (.int n_), .val (.long xx), .second, .val (.long yy), .second, .val (.long zz), .second, .val (.int (3 : Int32)), .val (.ref b57), .val (.long ((0 : Int64) + xx)), .second, .val (.long xx), .second, .unset, .unset]) rfl kq)
    show Win p e below _ T98 (mkF mt 99 #[.val (.long a0_), .second, .val (.long b0_), .second, .val (.long c0_), .second, .val (.int n_), .val (.long xx), .second, .val (.long yy), .second, .val (.long zz), .second, .val (.int (3 : Int32)), .val (.ref b57), .val (.long ((0 : Int64) + xx)), .second, .val (.long xx), .second, .unset, .unset] [])
    refine Win.st ?_ (fun tq kq => XS.iload X98.here hx rfl (hb hby at_99) rfl kq)
    show Win p e below _ T98 (mkF mt 101 #[.val (.long a0_), .second, .val (.long b0_), .second, .val (.long c0_), .second, .val (.int n_), .val (.long xx), .second, .val (.long yy), .second, .val (.long zz), .second, .val (.int (3 : Int32)), .val (.ref b57), .val (.long ((0 : Int64) + xx)), .second, .val (.long xx), .second, .unset, .unset] [(.int (3 : Int32))])
    refine Win.st ?_ (fun tq kq => XS.iconst X98.here hx rfl (hb hby at_101) kq)
    show Win p e below _ T98 (mkF mt 102 #[.val (.long a0_), .second, .val (.long b0_), .second, .val (.long c0_), .second, .val (.int n_), .val (.long xx), .second, .val (.long yy), .second, .val (.long zz), .second, .val (.int (3 : Int32)), .val (.ref b57), .val (.long ((0 : Int64) + xx)), .second, .val (.long xx), .second, .unset, .unset] [(.int (2 : Int32)), (.int (3 : Int32))])
    refine Win.st ?_ (fun tq kq => XS.icmpNo X98.here hx rfl (hb hby at_102) rfl (flt (by decide : ¬ ((3 : Int32) < (2 : Int32)))).1 kq)
    show Win p e below _ T98 (mkF mt 105 #[.val (.long a0_), .second, .val (.long b0_), .second, .val (.long c0_), .second, .val (.int n_), .val (.long xx), .second, .val (.long yy), .second, .val (.long zz), .second, .val (.int (3 : Int32)), .val (.ref b57), .val (.long ((0 : Int64) + xx)), .second, .val (.long xx), .second, .unset, .unset] [])
    refine Win.st ?_ (fun tq kq => XS.lload X98.here hx rfl (hb hby at_105) rfl kq)
    show Win p e below _ T98 (mkF mt 107 #[.val (.long a0_), .second, .val (.long b0_), .second, .val (.long c0_), .second, .val (.int n_), .val (.long xx), .second, .val (.long yy), .second, .val (.long zz), .second, .val (.int (3 : Int32)), .val (.ref b57), .val (.long ((0 : Int64) + xx)), .second, .val (.long xx), .second, .unset, .unset] [(.long ((0 : Int64) + xx))])
    refine Win.st ?_ (fun tq kq => XS.lload X98.here hx rfl (hb hby at_107) rfl kq)
    show Win p e below _ T98 (mkF mt 109 #[.val (.long a0_), .second, .val (.long b0_), .second, .val (.long c0_), .second, .val (.int n_), .val (.long xx), .second, .val (.long yy), .second, .val (.long zz), .second, .val (.int (3 : Int32)), .val (.ref b57), .val (.long ((0 : Int64) + xx)), .second, .val (.long xx), .second, .unset, .unset] [(.long yy), (.long ((0 : Int64) + xx))])
    refine Win.st ?_ (fun tq kq => XS.ladd X98.here hx rfl (hb hby at_109) rfl kq)
    show Win p e below _ T98 (mkF mt 110 #[.val (.long a0_), .second, .val (.long b0_), .second, .val (.long c0_), .second, .val (.int n_), .val (.long xx), .second, .val (.long yy), .second, .val (.long zz), .second, .val (.int (3 : Int32)), .val (.ref b57), .val (.long ((0 : Int64) + xx)), .second, .val (.long xx), .second, .unset, .unset] [(.long (((0 : Int64) + xx) + yy))])
    refine Win.st ?_ (fun tq kq => XS.lstore X98.here hx rfl (hb hby at_110) rfl (l' := #[.val (.long a0_), .second, .val (.long b0_), .second, .val (.long c0_), .second, .val (.int n_), .val (.long xx), .second, .val (.long yy), .second, .val (.long zz), .second, .val (.int (3 : Int32)), .val (.ref b57), .val (.long (((0 : Int64) + xx) + yy)), .second, .val (.long xx), .second, .unset, .unset]) rfl kq)
    show Win p e below _ T98 (mkF mt 112 #[.val (.long a0_), .second, .val (.long b0_), .second, .val (.long c0_), .second, .val (.int n_), .val (.long xx), .second, .val (.long yy), .second, .val (.long zz), .second, .val (.int (3 : Int32)), .val (.ref b57), .val (.long (((0 : Int64) + xx) + yy)), .second, .val (.long xx), .second, .unset, .unset] [])
    refine Win.st ?_ (fun tq kq => XS.lload X98.here hx rfl (hb hby at_112) rfl kq)
    show Win p e below _ T98 (mkF mt 114 #[.val (.long a0_), .second, .val (.long b0_), .second, .val (.long c0_), .second, .val (.int n_), .val (.long xx), .second, .val (.long yy), .second, .val (.long zz), .second, .val (.int (3 : Int32)), .val (.ref b57), .val (.long (((0 : Int64) + xx) + yy)), .second, .val (.long xx), .second, .unset, .unset] [(.long yy)])
    refine Win.st ?_ (fun tq kq => XS.lload X98.here hx rfl (hb hby at_114) rfl kq)
    show Win p e below _ T98 (mkF mt 116 #[.val (.long a0_), .second, .val (.long b0_), .second, .val (.long c0_), .second, .val (.int n_), .val (.long xx), .second, .val (.long yy), .second, .val (.long zz), .second, .val (.int (3 : Int32)), .val (.ref b57), .val (.long (((0 : Int64) + xx) + yy)), .second, .val (.long xx), .second, .unset, .unset] [(.long xx), (.long yy)])
    refine Win.st ?_ (fun tq kq => XS.lcmp X98.here hx rfl (hb hby at_116) rfl kq)
    show Win p e below _ T98 (mkF mt 117 #[.val (.long a0_), .second, .val (.long b0_), .second, .val (.long c0_), .second, .val (.int n_), .val (.long xx), .second, .val (.long yy), .second, .val (.long zz), .second, .val (.int (3 : Int32)), .val (.ref b57), .val (.long (((0 : Int64) + xx) + yy)), .second, .val (.long xx), .second, .unset, .unset] [(.int (lcmpW yy xx))])
    have jm1 : ∀ (T101 : State) (L101 : List Loc) (m1 : Int64), Stand p l e room_1 s mt args below meth cd T101 L101 2 15 → T101.heap = h98 → Fr n0 L101 → m1 = own_maxL xx yy → Win p e below (Ends s (Q_law Z a0_ b0_ c0_ n_ h0 n0) 2 15) T101 (mkF mt 124 #[.val (.long a0_), .second, .val (.long b0_), .second, .val (.long c0_), .second, .val (.int n_), .val (.long xx), .second, .val (.long yy), .second, .val (.long zz), .second, .val (.int (3 : Int32)), .val (.ref b57), .val (.long (((0 : Int64) + xx) + yy)), .second, .val (.long m1), .second, .unset, .unset] []) := by
      intro T101 L101 m1 X101 e101 N101 hm1
      refine Win.st ?_ (fun tq kq => XS.iload X101.here hx rfl (hb hby at_124) rfl kq)
      show Win p e below _ T101 (mkF mt 126 #[.val (.long a0_), .second, .val (.long b0_), .second, .val (.long c0_), .second, .val (.int n_), .val (.long xx), .second, .val (.long yy), .second, .val (.long zz), .second, .val (.int (3 : Int32)), .val (.ref b57), .val (.long (((0 : Int64) + xx) + yy)), .second, .val (.long m1), .second, .unset, .unset] [(.int (3 : Int32))])
      refine Win.st ?_ (fun tq kq => XS.iconst X101.here hx rfl (hb hby at_126) kq)
      show Win p e below _ T101 (mkF mt 127 #[.val (.long a0_), .second, .val (.long b0_), .second, .val (.long c0_), .second, .val (.int n_), .val (.long xx), .second, .val (.long yy), .second, .val (.long zz), .second, .val (.int (3 : Int32)), .val (.ref b57), .val (.long (((0 : Int64) + xx) + yy)), .second, .val (.long m1), .second, .unset, .unset] [(.int (3 : Int32)), (.int (3 : Int32))])
      refine Win.st ?_ (fun tq kq => XS.icmpNo X101.here hx rfl (hb hby at_127) rfl (flt (Int32.lt_irrefl)).1 kq)
      show Win p e below _ T101 (mkF mt 130 #[.val (.long a0_), .second, .val (.long b0_), .second, .val (.long c0_), .second, .val (.int n_), .val (.long xx), .second, .val (.long yy), .second, .val (.long zz), .second, .val (.int (3 : Int32)), .val (.ref b57), .val (.long (((0 : Int64) + xx) + yy)), .second, .val (.long m1), .second, .unset, .unset] [])
      refine Win.st ?_ (fun tq kq => XS.lload X101.here hx rfl (hb hby at_130) rfl kq)
      show Win p e below _ T101 (mkF mt 132 #[.val (.long a0_), .second, .val (.long b0_), .second, .val (.long c0_), .second, .val (.int n_), .val (.long xx), .second, .val (.long yy), .second, .val (.long zz), .second, .val (.int (3 : Int32)), .val (.ref b57), .val (.long (((0 : Int64) + xx) + yy)), .second, .val (.long m1), .second, .unset, .unset] [(.long (((0 : Int64) + xx) + yy))])
      refine Win.st ?_ (fun tq kq => XS.lload X101.here hx rfl (hb hby at_132) rfl kq)
      show Win p e below _ T101 (mkF mt 134 #[.val (.long a0_), .second, .val (.long b0_), .second, .val (.long c0_), .second, .val (.int n_), .val (.long xx), .second, .val (.long yy), .second, .val (.long zz), .second, .val (.int (3 : Int32)), .val (.ref b57), .val (.long (((0 : Int64) + xx) + yy)), .second, .val (.long m1), .second, .unset, .unset] [(.long zz), (.long (((0 : Int64) + xx) + yy))])
      refine Win.st ?_ (fun tq kq => XS.ladd X101.here hx rfl (hb hby at_134) rfl kq)
      show Win p e below _ T101 (mkF mt 135 #[.val (.long a0_), .second, .val (.long b0_), .second, .val (.long c0_), .second, .val (.int n_), .val (.long xx), .second, .val (.long yy), .second, .val (.long zz), .second, .val (.int (3 : Int32)), .val (.ref b57), .val (.long (((0 : Int64) + xx) + yy)), .second, .val (.long m1), .second, .unset, .unset] [(.long ((((0 : Int64) + xx) + yy) + zz))])
      refine Win.st ?_ (fun tq kq => XS.lstore X101.here hx rfl (hb hby at_135) rfl (l' := #[.val (.long a0_), .second, .val (.long b0_), .second, .val (.long c0_), .second, .val (.int n_), .val (.long xx), .second, .val (.long yy), .second, .val (.long zz), .second, .val (.int (3 : Int32)), .val (.ref b57), .val (.long ((((0 : Int64) + xx) + yy) + zz)), .second, .val (.long m1), .second, .unset, .unset]) rfl kq)
      show Win p e below _ T101 (mkF mt 137 #[.val (.long a0_), .second, .val (.long b0_), .second, .val (.long c0_), .second, .val (.int n_), .val (.long xx), .second, .val (.long yy), .second, .val (.long zz), .second, .val (.int (3 : Int32)), .val (.ref b57), .val (.long ((((0 : Int64) + xx) + yy) + zz)), .second, .val (.long m1), .second, .unset, .unset] [])
      refine Win.st ?_ (fun tq kq => XS.lload X101.here hx rfl (hb hby at_137) rfl kq)
      show Win p e below _ T101 (mkF mt 139 #[.val (.long a0_), .second, .val (.long b0_), .second, .val (.long c0_), .second, .val (.int n_), .val (.long xx), .second, .val (.long yy), .second, .val (.long zz), .second, .val (.int (3 : Int32)), .val (.ref b57), .val (.long ((((0 : Int64) + xx) + yy) + zz)), .second, .val (.long m1), .second, .unset, .unset] [(.long zz)])
      refine Win.st ?_ (fun tq kq => XS.lload X101.here hx rfl (hb hby at_139) rfl kq)
      show Win p e below _ T101 (mkF mt 141 #[.val (.long a0_), .second, .val (.long b0_), .second, .val (.long c0_), .second, .val (.int n_), .val (.long xx), .second, .val (.long yy), .second, .val (.long zz), .second, .val (.int (3 : Int32)), .val (.ref b57), .val (.long ((((0 : Int64) + xx) + yy) + zz)), .second, .val (.long m1), .second, .unset, .unset] [(.long m1), (.long zz)])
      refine Win.st ?_ (fun tq kq => XS.lcmp X101.here hx rfl (hb hby at_141) rfl kq)
      show Win p e below _ T101 (mkF mt 142 #[.val (.long a0_), .second, .val (.long b0_), .second, .val (.long c0_), .second, .val (.int n_), .val (.long xx), .second, .val (.long yy), .second, .val (.long zz), .second, .val (.int (3 : Int32)), .val (.ref b57), .val (.long ((((0 : Int64) + xx) + yy) + zz)), .second, .val (.long m1), .second, .unset, .unset] [(.int (lcmpW zz m1))])
      have jm2 : ∀ (T102 : State) (L102 : List Loc) (m2 : Int64), Stand p l e room_1 s mt args below meth cd T102 L102 2 15 → T102.heap = h98 → Fr n0 L102 → m2 = own_maxL m1 zz → Win p e below (Ends s (Q_law Z a0_ b0_ c0_ n_ h0 n0) 2 15) T102 (mkF mt 149 #[.val (.long a0_), .second, .val (.long b0_), .second, .val (.long c0_), .second, .val (.int n_), .val (.long xx), .second, .val (.long yy), .second, .val (.long zz), .second, .val (.int (3 : Int32)), .val (.ref b57), .val (.long ((((0 : Int64) + xx) + yy) + zz)), .second, .val (.long m2), .second, .unset, .unset] []) := by
        intro T102 L102 m2 X102 e102 N102 hm2
        refine Win.st ?_ (fun tq kq => XS.iload X102.here hx rfl (hb hby at_149) rfl kq)
        show Win p e below _ T102 (mkF mt 151 #[.val (.long a0_), .second, .val (.long b0_), .second, .val (.long c0_), .second, .val (.int n_), .val (.long xx), .second, .val (.long yy), .second, .val (.long zz), .second, .val (.int (3 : Int32)), .val (.ref b57), .val (.long ((((0 : Int64) + xx) + yy) + zz)), .second, .val (.long m2), .second, .unset, .unset] [(.int (3 : Int32))])
        refine Win.st ?_ (fun tq kq => XS.ifYes X102.here hx rfl (pc0 := 151) (pc' := 158) rfl (hb hby at_151) rfl ((if0 _ _).trans (feq (by decide : ¬ ((3 : Int32) = (0 : Int32)))).2) (by decide) (by decide) kq)
        show Win p e below _ T102 (mkF mt 158 #[.val (.long a0_), .second, .val (.long b0_), .second, .val (.long c0_), .second, .val (.int n_), .val (.long xx), .second, .val (.long yy), .second, .val (.long zz), .second, .val (.int (3 : Int32)), .val (.ref b57), .val (.long ((((0 : Int64) + xx) + yy) + zz)), .second, .val (.long m2), .second, .unset, .unset] [])
        refine Win.st ?_ (fun tq kq => XS.lload X102.here hx rfl (hb hby at_158) rfl kq)
        show Win p e below _ T102 (mkF mt 160 #[.val (.long a0_), .second, .val (.long b0_), .second, .val (.long c0_), .second, .val (.int n_), .val (.long xx), .second, .val (.long yy), .second, .val (.long zz), .second, .val (.int (3 : Int32)), .val (.ref b57), .val (.long ((((0 : Int64) + xx) + yy) + zz)), .second, .val (.long m2), .second, .unset, .unset] [(.long ((((0 : Int64) + xx) + yy) + zz))])
        refine Win.st ?_ (fun tq kq => XS.iload X102.here hx rfl (hb hby at_160) rfl kq)
        show Win p e below _ T102 (mkF mt 162 #[.val (.long a0_), .second, .val (.long b0_), .second, .val (.long c0_), .second, .val (.int n_), .val (.long xx), .second, .val (.long yy), .second, .val (.long zz), .second, .val (.int (3 : Int32)), .val (.ref b57), .val (.long ((((0 : Int64) + xx) + yy) + zz)), .second, .val (.long m2), .second, .unset, .unset] [(.int (3 : Int32)), (.long ((((0 : Int64) + xx) + yy) + zz))])
        refine Win.st ?_ (fun tq kq => XS.i2l X102.here hx rfl (hb hby at_162) rfl kq)
        show Win p e below _ T102 (mkF mt 163 #[.val (.long a0_), .second, .val (.long b0_), .second, .val (.long c0_), .second, .val (.int n_), .val (.long xx), .second, .val (.long yy), .second, .val (.long zz), .second, .val (.int (3 : Int32)), .val (.ref b57), .val (.long ((((0 : Int64) + xx) + yy) + zz)), .second, .val (.long m2), .second, .unset, .unset] [(.long ((3 : Int32).toInt64)), (.long ((((0 : Int64) + xx) + yy) + zz))])
        refine Win.st ?_ (fun tq kq => XS.ldiv X102.here hx rfl (hb hby at_163) rfl (by decide) kq)
        show Win p e below _ T102 (mkF mt 164 #[.val (.long a0_), .second, .val (.long b0_), .second, .val (.long c0_), .second, .val (.int n_), .val (.long xx), .second, .val (.long yy), .second, .val (.long zz), .second, .val (.int (3 : Int32)), .val (.ref b57), .val (.long ((((0 : Int64) + xx) + yy) + zz)), .second, .val (.long m2), .second, .unset, .unset] [(.long (((((0 : Int64) + xx) + yy) + zz) / ((3 : Int32).toInt64)))])
        refine Win.st ?_ (fun tq kq => XS.lstore X102.here hx rfl (hb hby at_164) rfl (l' := #[.val (.long a0_), .second, .val (.long b0_), .second, .val (.long c0_), .second, .val (.int n_), .val (.long xx), .second, .val (.long yy), .second, .val (.long zz), .second, .val (.int (3 : Int32)), .val (.ref b57), .val (.long ((((0 : Int64) + xx) + yy) + zz)), .second, .val (.long m2), .second, .val (.long (((((0 : Int64) + xx) + yy) + zz) / ((3 : Int32).toInt64))), .second]) rfl kq)
        show Win p e below _ T102 (mkF mt 166 #[.val (.long a0_), .second, .val (.long b0_), .second, .val (.long c0_), .second, .val (.int n_), .val (.long xx), .second, .val (.long yy), .second, .val (.long zz), .second, .val (.int (3 : Int32)), .val (.ref b57), .val (.long ((((0 : Int64) + xx) + yy) + zz)), .second, .val (.long m2), .second, .val (.long (((((0 : Int64) + xx) + yy) + zz) / ((3 : Int32).toInt64))), .second] [])
        refine Win.st ?_ (fun tq kq => XS.aload X102.here hx rfl (hb hby at_166) rfl rfl kq)
        show Win p e below _ T102 (mkF mt 168 #[.val (.long a0_), .second, .val (.long b0_), .second, .val (.long c0_), .second, .val (.int n_), .val (.long xx), .second, .val (.long yy), .second, .val (.long zz), .second, .val (.int (3 : Int32)), .val (.ref b57), .val (.long ((((0 : Int64) + xx) + yy) + zz)), .second, .val (.long m2), .second, .val (.long (((((0 : Int64) + xx) + yy) + zz) / ((3 : Int32).toInt64))), .second] [(.ref b57)])
        obtain ⟨cq103, kq103, q103a, q103b, q103c⟩ := isOf hZ e102 f99_803
        obtain ⟨v103, _, ⟨T103, L103, k103, n103⟩, -, X103, ⟨Lc103, hQ103, l103, y103, z103⟩, st103⟩ := X102.virtualBack hx (y := (⟨"com/example/interleave/interleave/Tally", "committed", "()J"⟩ : MethodName)) (z := (⟨"com/example/interleave/interleave/Tally", "committed", "()J"⟩ : MethodName)) hown (mvT hZ (hw _ (List.mem_of_getElem? (i := 43) rfl))) (mvT hZ (hw _ (List.mem_of_getElem? (i := 44) rfl))) (notFace_of_selects (args := #[]) (mvT hZ (hw _ (List.mem_of_getElem? (i := 46) rfl)))) (mvT hZ (hw _ (List.mem_of_getElem? (i := 46) rfl))) (mvT hZ (hw _ (List.mem_of_getElem? (i := 45) rfl))) (by decide) (backOf (W := 0) (rm_gcommitted l Z a0 hw [] b57 ((((0 : Int64) + (1 : Int64)) + (1 : Int64)) + (1 : Int64)) h98 n0 Z100 t98_cm) hZ (hw _ (List.mem_of_getElem? (i := 47) rfl)) (hw _ (List.mem_of_getElem? (i := 3) rfl)) (by decide) (by decide)) q103a q103c (g := (mkF mt 168 #[.val (.long a0_), .second, .val (.long b0_), .second, .val (.long c0_), .second, .val (.int n_), .val (.long xx), .second, .val (.long yy), .second, .val (.long zz), .second, .val (.int (3 : Int32)), .val (.ref b57), .val (.long ((((0 : Int64) + xx) + yy) + zz)), .second, .val (.long m2), .second, .val (.long (((((0 : Int64) + xx) + yy) + zz) / ((3 : Int32).toInt64))), .second] [(.ref b57)])) rfl (by rw [hml]; rfl) (Steps.refl _) (argsL := []) (rest := []) (lenOf pd_2 rfl) rfl (by show 2 * 0 + _ ≤ _; exact Nat.le_of_eq rfl) (hb hby at_168) (fun _ _ => ⟨rfl, e102, (by decide : 2 + 0 ≤ _), (by decide : 15 + 0 ≤ _)⟩)
        dsimp only [Pt.U, Pt.locs, Pt.cells, Pt.slots] at X103 l103 y103 z103 st103 hQ103
        subst y103 z103
        replace X103 : Stand p l e _ s mt args below meth cd T103 L103 2 15 := X103
        obtain ⟨h103, e103⟩ : ∃ z, T103.heap = z := ⟨_, rfl⟩
        rw [e103] at hQ103
        obtain ⟨rfl, Nq103, eh103⟩ := hQ103
        have N103 : Fr n0 L103 := by rw [l103]; exact Fr.app N102 Nq103
        rw [eh103] at e103
        refine Win.tr ?_ st103
        show Win p e below _ T103 (mkF mt 171 #[.val (.long a0_), .second, .val (.long b0_), .second, .val (.long c0_), .second, .val (.int n_), .val (.long xx), .second, .val (.long yy), .second, .val (.long zz), .second, .val (.int (3 : Int32)), .val (.ref b57), .val (.long ((((0 : Int64) + xx) + yy) + zz)), .second, .val (.long m2), .second, .val (.long (((((0 : Int64) + xx) + yy) + zz) / ((3 : Int32).toInt64))), .second] [(.long ((((0 : Int64) + (1 : Int64)) + (1 : Int64)) + (1 : Int64)))])
        refine Win.st ?_ (fun tq kq => XS.iload X103.here hx rfl (hb hby at_171) rfl kq)
        show Win p e below _ T103 (mkF mt 173 #[.val (.long a0_), .second, .val (.long b0_), .second, .val (.long c0_), .second, .val (.int n_), .val (.long xx), .second, .val (.long yy), .second, .val (.long zz), .second, .val (.int (3 : Int32)), .val (.ref b57), .val (.long ((((0 : Int64) + xx) + yy) + zz)), .second, .val (.long m2), .second, .val (.long (((((0 : Int64) + xx) + yy) + zz) / ((3 : Int32).toInt64))), .second] [(.int (3 : Int32)), (.long ((((0 : Int64) + (1 : Int64)) + (1 : Int64)) + (1 : Int64)))])
        refine Win.st ?_ (fun tq kq => XS.i2l X103.here hx rfl (hb hby at_173) rfl kq)
        show Win p e below _ T103 (mkF mt 174 #[.val (.long a0_), .second, .val (.long b0_), .second, .val (.long c0_), .second, .val (.int n_), .val (.long xx), .second, .val (.long yy), .second, .val (.long zz), .second, .val (.int (3 : Int32)), .val (.ref b57), .val (.long ((((0 : Int64) + xx) + yy) + zz)), .second, .val (.long m2), .second, .val (.long (((((0 : Int64) + xx) + yy) + zz) / ((3 : Int32).toInt64))), .second] [(.long ((3 : Int32).toInt64)), (.long ((((0 : Int64) + (1 : Int64)) + (1 : Int64)) + (1 : Int64)))])
        refine Win.st ?_ (fun tq kq => XS.lcmp X103.here hx rfl (hb hby at_174) rfl kq)
        show Win p e below _ T103 (mkF mt 175 #[.val (.long a0_), .second, .val (.long b0_), .second, .val (.long c0_), .second, .val (.int n_), .val (.long xx), .second, .val (.long yy), .second, .val (.long zz), .second, .val (.int (3 : Int32)), .val (.ref b57), .val (.long ((((0 : Int64) + xx) + yy) + zz)), .second, .val (.long m2), .second, .val (.long (((((0 : Int64) + xx) + yy) + zz) / ((3 : Int32).toInt64))), .second] [(.int (lcmpW ((((0 : Int64) + (1 : Int64)) + (1 : Int64)) + (1 : Int64)) ((3 : Int32).toInt64)))])
        refine Win.st ?_ (fun tq kq => XS.ifNo X103.here hx rfl (hb hby at_175) rfl ((if0 _ _).trans (teq ((lw_eq _ _).mpr (by decide))).2) kq)
        show Win p e below _ T103 (mkF mt 178 #[.val (.long a0_), .second, .val (.long b0_), .second, .val (.long c0_), .second, .val (.int n_), .val (.long xx), .second, .val (.long yy), .second, .val (.long zz), .second, .val (.int (3 : Int32)), .val (.ref b57), .val (.long ((((0 : Int64) + xx) + yy) + zz)), .second, .val (.long m2), .second, .val (.long (((((0 : Int64) + xx) + yy) + zz) / ((3 : Int32).toInt64))), .second] [])
        refine Win.st ?_ (fun tq kq => XS.aload X103.here hx rfl (hb hby at_178) rfl rfl kq)
        show Win p e below _ T103 (mkF mt 180 #[.val (.long a0_), .second, .val (.long b0_), .second, .val (.long c0_), .second, .val (.int n_), .val (.long xx), .second, .val (.long yy), .second, .val (.long zz), .second, .val (.int (3 : Int32)), .val (.ref b57), .val (.long ((((0 : Int64) + xx) + yy) + zz)), .second, .val (.long m2), .second, .val (.long (((((0 : Int64) + xx) + yy) + zz) / ((3 : Int32).toInt64))), .second] [(.ref b57)])
        obtain ⟨cq104, kq104, q104a, q104b, q104c⟩ := isOf hZ e103 f99_803
        obtain ⟨v104, _, ⟨T104, L104, k104, n104⟩, -, X104, ⟨Lc104, hQ104, l104, y104, z104⟩, st104⟩ := X103.virtualBack hx (y := (⟨"com/example/interleave/interleave/Tally", "averageNanos", "()J"⟩ : MethodName)) (z := (⟨"com/example/interleave/interleave/Tally", "averageNanos", "()J"⟩ : MethodName)) hown (mvT hZ (hw _ (List.mem_of_getElem? (i := 48) rfl))) (mvT hZ (hw _ (List.mem_of_getElem? (i := 49) rfl))) (notFace_of_selects (args := #[]) (mvT hZ (hw _ (List.mem_of_getElem? (i := 51) rfl)))) (mvT hZ (hw _ (List.mem_of_getElem? (i := 51) rfl))) (mvT hZ (hw _ (List.mem_of_getElem? (i := 50) rfl))) (by decide) (backOf (W := 0) (rm_tavg l Z a0 hw [] b57 ((((0 : Int64) + (1 : Int64)) + (1 : Int64)) + (1 : Int64)) ((((0 : Int64) + xx) + yy) + zz) h98 n0 Z100 t98_cm t98_nn) hZ (hw _ (List.mem_of_getElem? (i := 52) rfl)) (hw _ (List.mem_of_getElem? (i := 3) rfl)) (by decide) (by decide)) q104a q104c (g := (mkF mt 180 #[.val (.long a0_), .second, .val (.long b0_), .second, .val (.long c0_), .second, .val (.int n_), .val (.long xx), .second, .val (.long yy), .second, .val (.long zz), .second, .val (.int (3 : Int32)), .val (.ref b57), .val (.long ((((0 : Int64) + xx) + yy) + zz)), .second, .val (.long m2), .second, .val (.long (((((0 : Int64) + xx) + yy) + zz) / ((3 : Int32).toInt64))), .second] [(.ref b57)])) rfl (by rw [hml]; rfl) (Steps.refl _) (argsL := []) (rest := []) (lenOf pd_2 rfl) rfl (by show 2 * 0 + _ ≤ _; exact Nat.le_of_eq rfl) (hb hby at_180) (fun _ _ => ⟨rfl, e103, (by decide : 2 + 0 ≤ _), (by decide : 15 + 0 ≤ _)⟩)
        dsimp only [Pt.U, Pt.locs, Pt.cells, Pt.slots] at X104 l104 y104 z104 st104 hQ104
        subst y104 z104
        replace X104 : Stand p l e _ s mt args below meth cd T104 L104 2 15 := X104
        obtain ⟨h104, e104⟩ : ∃ z, T104.heap = z := ⟨_, rfl⟩
        rw [e104] at hQ104
        obtain ⟨rfl, Nq104, eh104⟩ := hQ104
        have N104 : Fr n0 L104 := by rw [l104]; exact Fr.app N103 Nq104
        rw [eh104] at e104
        refine Win.tr ?_ st104
        show Win p e below _ T104 (mkF mt 183 #[.val (.long a0_), .second, .val (.long b0_), .second, .val (.long c0_), .second, .val (.int n_), .val (.long xx), .second, .val (.long yy), .second, .val (.long zz), .second, .val (.int (3 : Int32)), .val (.ref b57), .val (.long ((((0 : Int64) + xx) + yy) + zz)), .second, .val (.long m2), .second, .val (.long (((((0 : Int64) + xx) + yy) + zz) / ((3 : Int32).toInt64))), .second] [(.long (own_avg ((((0 : Int64) + (1 : Int64)) + (1 : Int64)) + (1 : Int64)) ((((0 : Int64) + xx) + yy) + zz)))])
        refine Win.st ?_ (fun tq kq => XS.lload X104.here hx rfl (hb hby at_183) rfl kq)
        show Win p e below _ T104 (mkF mt 185 #[.val (.long a0_), .second, .val (.long b0_), .second, .val (.long c0_), .second, .val (.int n_), .val (.long xx), .second, .val (.long yy), .second, .val (.long zz), .second, .val (.int (3 : Int32)), .val (.ref b57), .val (.long ((((0 : Int64) + xx) + yy) + zz)), .second, .val (.long m2), .second, .val (.long (((((0 : Int64) + xx) + yy) + zz) / ((3 : Int32).toInt64))), .second] [(.long (((((0 : Int64) + xx) + yy) + zz) / ((3 : Int32).toInt64))), (.long (own_avg ((((0 : Int64) + (1 : Int64)) + (1 : Int64)) + (1 : Int64)) ((((0 : Int64) + xx) + yy) + zz)))])
        refine Win.st ?_ (fun tq kq => XS.lcmp X104.here hx rfl (hb hby at_185) rfl kq)
        show Win p e below _ T104 (mkF mt 186 #[.val (.long a0_), .second, .val (.long b0_), .second, .val (.long c0_), .second, .val (.int n_), .val (.long xx), .second, .val (.long yy), .second, .val (.long zz), .second, .val (.int (3 : Int32)), .val (.ref b57), .val (.long ((((0 : Int64) + xx) + yy) + zz)), .second, .val (.long m2), .second, .val (.long (((((0 : Int64) + xx) + yy) + zz) / ((3 : Int32).toInt64))), .second] [(.int (lcmpW (own_avg ((((0 : Int64) + (1 : Int64)) + (1 : Int64)) + (1 : Int64)) ((((0 : Int64) + xx) + yy) + zz)) (((((0 : Int64) + xx) + yy) + zz) / ((3 : Int32).toInt64))))])
        refine Win.st ?_ (fun tq kq => XS.ifNo X104.here hx rfl (hb hby at_186) rfl ((if0 _ _).trans (teq ((lw_eq _ _).mpr (own_avgd _ _ ((3 : Int32).toInt64) (by decide) (by decide)))).2) kq)
        show Win p e below _ T104 (mkF mt 189 #[.val (.long a0_), .second, .val (.long b0_), .second, .val (.long c0_), .second, .val (.int n_), .val (.long xx), .second, .val (.long yy), .second, .val (.long zz), .second, .val (.int (3 : Int32)), .val (.ref b57), .val (.long ((((0 : Int64) + xx) + yy) + zz)), .second, .val (.long m2), .second, .val (.long (((((0 : Int64) + xx) + yy) + zz) / ((3 : Int32).toInt64))), .second] [])
        refine Win.st ?_ (fun tq kq => XS.aload X104.here hx rfl (hb hby at_189) rfl rfl kq)
        show Win p e below _ T104 (mkF mt 191 #[.val (.long a0_), .second, .val (.long b0_), .second, .val (.long c0_), .second, .val (.int n_), .val (.long xx), .second, .val (.long yy), .second, .val (.long zz), .second, .val (.int (3 : Int32)), .val (.ref b57), .val (.long ((((0 : Int64) + xx) + yy) + zz)), .second, .val (.long m2), .second, .val (.long (((((0 : Int64) + xx) + yy) + zz) / ((3 : Int32).toInt64))), .second] [(.ref b57)])
        obtain ⟨cq105, kq105, q105a, q105b, q105c⟩ := isOf hZ e104 f99_803
        obtain ⟨v105, _, ⟨T105, L105, k105, n105⟩, -, X105, ⟨Lc105, hQ105, l105, y105, z105⟩, st105⟩ := X104.virtualBack hx (y := (⟨"com/example/interleave/interleave/Tally", "longestNanos", "()J"⟩ : MethodName)) (z := (⟨"com/example/interleave/interleave/Tally", "longestNanos", "()J"⟩ : MethodName)) hown (mvT hZ (hw _ (List.mem_of_getElem? (i := 53) rfl))) (mvT hZ (hw _ (List.mem_of_getElem? (i := 54) rfl))) (notFace_of_selects (args := #[]) (mvT hZ (hw _ (List.mem_of_getElem? (i := 56) rfl)))) (mvT hZ (hw _ (List.mem_of_getElem? (i := 56) rfl))) (mvT hZ (hw _ (List.mem_of_getElem? (i := 55) rfl))) (by decide) (backOf (W := 0) (rm_glongestNanos l Z a0 hw [] b57 (own_maxL (own_maxL (own_maxL (0 : Int64) xx) yy) zz) h98 n0 Z100 t98_lo) hZ (hw _ (List.mem_of_getElem? (i := 57) rfl)) (hw _ (List.mem_of_getElem? (i := 3) rfl)) (by decide) (by decide)) q105a q105c (g := (mkF mt 191 #[.val (.long a0_), .second, .val (.long b0_), .second, .val (.long c0_), .second, .val (.int n_), .val (.long xx), .second, .val (.long yy), .second, .val (.long zz), .second, .val (.int (3 : Int32)), .val (.ref b57), .val (.long ((((0 : Int64) + xx) + yy) + zz)), .second, .val (.long m2), .second, .val (.long (((((0 : Int64) + xx) + yy) + zz) / ((3 : Int32).toInt64))), .second] [(.ref b57)])) rfl (by rw [hml]; rfl) (Steps.refl _) (argsL := []) (rest := []) (lenOf pd_2 rfl) rfl (by show 2 * 0 + _ ≤ _; exact Nat.le_of_eq rfl) (hb hby at_191) (fun _ _ => ⟨rfl, e104, (by decide : 2 + 0 ≤ _), (by decide : 15 + 0 ≤ _)⟩)
        dsimp only [Pt.U, Pt.locs, Pt.cells, Pt.slots] at X105 l105 y105 z105 st105 hQ105
        subst y105 z105
        replace X105 : Stand p l e _ s mt args below meth cd T105 L105 2 15 := X105
        obtain ⟨h105, e105⟩ : ∃ z, T105.heap = z := ⟨_, rfl⟩
        rw [e105] at hQ105
        obtain ⟨rfl, Nq105, eh105⟩ := hQ105
        have N105 : Fr n0 L105 := by rw [l105]; exact Fr.app N104 Nq105
        rw [eh105] at e105
        refine Win.tr ?_ st105
        show Win p e below _ T105 (mkF mt 194 #[.val (.long a0_), .second, .val (.long b0_), .second, .val (.long c0_), .second, .val (.int n_), .val (.long xx), .second, .val (.long yy), .second, .val (.long zz), .second, .val (.int (3 : Int32)), .val (.ref b57), .val (.long ((((0 : Int64) + xx) + yy) + zz)), .second, .val (.long m2), .second, .val (.long (((((0 : Int64) + xx) + yy) + zz) / ((3 : Int32).toInt64))), .second] [(.long (own_maxL (own_maxL (own_maxL (0 : Int64) xx) yy) zz))])
        refine Win.st ?_ (fun tq kq => XS.lload X105.here hx rfl (hb hby at_194) rfl kq)
        show Win p e below _ T105 (mkF mt 196 #[.val (.long a0_), .second, .val (.long b0_), .second, .val (.long c0_), .second, .val (.int n_), .val (.long xx), .second, .val (.long yy), .second, .val (.long zz), .second, .val (.int (3 : Int32)), .val (.ref b57), .val (.long ((((0 : Int64) + xx) + yy) + zz)), .second, .val (.long m2), .second, .val (.long (((((0 : Int64) + xx) + yy) + zz) / ((3 : Int32).toInt64))), .second] [(.long m2), (.long (own_maxL (own_maxL (own_maxL (0 : Int64) xx) yy) zz))])
        refine Win.st ?_ (fun tq kq => XS.lcmp X105.here hx rfl (hb hby at_196) rfl kq)
        show Win p e below _ T105 (mkF mt 197 #[.val (.long a0_), .second, .val (.long b0_), .second, .val (.long c0_), .second, .val (.int n_), .val (.long xx), .second, .val (.long yy), .second, .val (.long zz), .second, .val (.int (3 : Int32)), .val (.ref b57), .val (.long ((((0 : Int64) + xx) + yy) + zz)), .second, .val (.long m2), .second, .val (.long (((((0 : Int64) + xx) + yy) + zz) / ((3 : Int32).toInt64))), .second] [(.int (lcmpW (own_maxL (own_maxL (own_maxL (0 : Int64) xx) yy) zz) m2))])
        refine Win.st ?_ (fun tq kq => XS.ifNo X105.here hx rfl (hb hby at_197) rfl ((if0 _ _).trans (teq ((lw_eq _ _).mpr (by rw [own_max0 hpxx, ← hm1]; exact hm2.symm))).2) kq)
        show Win p e below _ T105 (mkF mt 200 #[.val (.long a0_), .second, .val (.long b0_), .second, .val (.long c0_), .second, .val (.int n_), .val (.long xx), .second, .val (.long yy), .second, .val (.long zz), .second, .val (.int (3 : Int32)), .val (.ref b57), .val (.long ((((0 : Int64) + xx) + yy) + zz)), .second, .val (.long m2), .second, .val (.long (((((0 : Int64) + xx) + yy) + zz) / ((3 : Int32).toInt64))), .second] [])
        refine Win.st ?_ (fun tq kq => XS.aload X105.here hx rfl (hb hby at_200) rfl rfl kq)
        show Win p e below _ T105 (mkF mt 202 #[.val (.long a0_), .second, .val (.long b0_), .second, .val (.long c0_), .second, .val (.int n_), .val (.long xx), .second, .val (.long yy), .second, .val (.long zz), .second, .val (.int (3 : Int32)), .val (.ref b57), .val (.long ((((0 : Int64) + xx) + yy) + zz)), .second, .val (.long m2), .second, .val (.long (((((0 : Int64) + xx) + yy) + zz) / ((3 : Int32).toInt64))), .second] [(.ref b57)])
        obtain ⟨cq106, kq106, q106a, q106b, q106c⟩ := isOf hZ e105 f99_803
        obtain ⟨v106, _, ⟨T106, L106, k106, n106⟩, -, X106, ⟨Lc106, hQ106, l106, y106, z106⟩, st106⟩ := X105.virtualBack hx (y := (⟨"com/example/interleave/interleave/Tally", "started", "()J"⟩ : MethodName)) (z := (⟨"com/example/interleave/interleave/Tally", "started", "()J"⟩ : MethodName)) hown (mvT hZ (hw _ (List.mem_of_getElem? (i := 58) rfl))) (mvT hZ (hw _ (List.mem_of_getElem? (i := 59) rfl))) (notFace_of_selects (args := #[]) (mvT hZ (hw _ (List.mem_of_getElem? (i := 61) rfl)))) (mvT hZ (hw _ (List.mem_of_getElem? (i := 61) rfl))) (mvT hZ (hw _ (List.mem_of_getElem? (i := 60) rfl))) (by decide) (backOf (W := 0) (rm_gstarted l Z a0 hw [] b57 (0 : Int64) h98 n0 Z100 t98_st) hZ (hw _ (List.mem_of_getElem? (i := 62) rfl)) (hw _ (List.mem_of_getElem? (i := 3) rfl)) (by decide) (by decide)) q106a q106c (g := (mkF mt 202 #[.val (.long a0_), .second, .val (.long b0_), .second, .val (.long c0_), .second, .val (.int n_), .val (.long xx), .second, .val (.long yy), .second, .val (.long zz), .second, .val (.int (3 : Int32)), .val (.ref b57), .val (.long ((((0 : Int64) + xx) + yy) + zz)), .second, .val (.long m2), .second, .val (.long (((((0 : Int64) + xx) + yy) + zz) / ((3 : Int32).toInt64))), .second] [(.ref b57)])) rfl (by rw [hml]; rfl) (Steps.refl _) (argsL := []) (rest := []) (lenOf pd_2 rfl) rfl (by show 2 * 0 + _ ≤ _; exact Nat.le_of_eq rfl) (hb hby at_202) (fun _ _ => ⟨rfl, e105, (by decide : 2 + 0 ≤ _), (by decide : 15 + 0 ≤ _)⟩)
        dsimp only [Pt.U, Pt.locs, Pt.cells, Pt.slots] at X106 l106 y106 z106 st106 hQ106
        subst y106 z106
        replace X106 : Stand p l e _ s mt args below meth cd T106 L106 2 15 := X106
        obtain ⟨h106, e106⟩ : ∃ z, T106.heap = z := ⟨_, rfl⟩
        rw [e106] at hQ106
        obtain ⟨rfl, Nq106, eh106⟩ := hQ106
        have N106 : Fr n0 L106 := by rw [l106]; exact Fr.app N105 Nq106
        rw [eh106] at e106
        refine Win.tr ?_ st106
        show Win p e below _ T106 (mkF mt 205 #[.val (.long a0_), .second, .val (.long b0_), .second, .val (.long c0_), .second, .val (.int n_), .val (.long xx), .second, .val (.long yy), .second, .val (.long zz), .second, .val (.int (3 : Int32)), .val (.ref b57), .val (.long ((((0 : Int64) + xx) + yy) + zz)), .second, .val (.long m2), .second, .val (.long (((((0 : Int64) + xx) + yy) + zz) / ((3 : Int32).toInt64))), .second] [(.long (0 : Int64))])
        refine Win.st ?_ (fun tq kq => XS.lconst X106.here hx rfl (hb hby at_205) kq)
        show Win p e below _ T106 (mkF mt 206 #[.val (.long a0_), .second, .val (.long b0_), .second, .val (.long c0_), .second, .val (.int n_), .val (.long xx), .second, .val (.long yy), .second, .val (.long zz), .second, .val (.int (3 : Int32)), .val (.ref b57), .val (.long ((((0 : Int64) + xx) + yy) + zz)), .second, .val (.long m2), .second, .val (.long (((((0 : Int64) + xx) + yy) + zz) / ((3 : Int32).toInt64))), .second] [(.long (0 : Int64)), (.long (0 : Int64))])
        refine Win.st ?_ (fun tq kq => XS.lcmp X106.here hx rfl (hb hby at_206) rfl kq)
        show Win p e below _ T106 (mkF mt 207 #[.val (.long a0_), .second, .val (.long b0_), .second, .val (.long c0_), .second, .val (.int n_), .val (.long xx), .second, .val (.long yy), .second, .val (.long zz), .second, .val (.int (3 : Int32)), .val (.ref b57), .val (.long ((((0 : Int64) + xx) + yy) + zz)), .second, .val (.long m2), .second, .val (.long (((((0 : Int64) + xx) + yy) + zz) / ((3 : Int32).toInt64))), .second] [(.int (lcmpW (0 : Int64) (0 : Int64)))])
        refine Win.st ?_ (fun tq kq => XS.ifNo X106.here hx rfl (hb hby at_207) rfl ((if0 _ _).trans (teq ((lw_eq _ _).mpr rfl)).2) kq)
        show Win p e below _ T106 (mkF mt 210 #[.val (.long a0_), .second, .val (.long b0_), .second, .val (.long c0_), .second, .val (.int n_), .val (.long xx), .second, .val (.long yy), .second, .val (.long zz), .second, .val (.int (3 : Int32)), .val (.ref b57), .val (.long ((((0 : Int64) + xx) + yy) + zz)), .second, .val (.long m2), .second, .val (.long (((((0 : Int64) + xx) + yy) + zz) / ((3 : Int32).toInt64))), .second] [])
        refine Win.st ?_ (fun tq kq => XS.aload X106.here hx rfl (hb hby at_210) rfl rfl kq)
        show Win p e below _ T106 (mkF mt 212 #[.val (.long a0_), .second, .val (.long b0_), .second, .val (.long c0_), .second, .val (.int n_), .val (.long xx), .second, .val (.long yy), .second, .val (.long zz), .second, .val (.int (3 : Int32)), .val (.ref b57), .val (.long ((((0 : Int64) + xx) + yy) + zz)), .second, .val (.long m2), .second, .val (.long (((((0 : Int64) + xx) + yy) + zz) / ((3 : Int32).toInt64))), .second] [(.ref b57)])
        obtain ⟨cq107, kq107, q107a, q107b, q107c⟩ := isOf hZ e106 f99_803
        obtain ⟨v107, _, ⟨T107, L107, k107, n107⟩, -, X107, ⟨Lc107, hQ107, l107, y107, z107⟩, st107⟩ := X106.virtualBack hx (y := (⟨"com/example/interleave/interleave/Tally", "failed", "()J"⟩ : MethodName)) (z := (⟨"com/example/interleave/interleave/Tally", "failed", "()J"⟩ : MethodName)) hown (mvT hZ (hw _ (List.mem_of_getElem? (i := 65) rfl))) (mvT hZ (hw _ (List.mem_of_getElem? (i := 66) rfl))) (notFace_of_selects (args := #[]) (mvT hZ (hw _ (List.mem_of_getElem? (i := 68) rfl)))) (mvT hZ (hw _ (List.mem_of_getElem? (i := 68) rfl))) (mvT hZ (hw _ (List.mem_of_getElem? (i := 67) rfl))) (by decide) (backOf (W := 0) (rm_gfailed l Z a0 hw [] b57 (0 : Int64) h98 n0 Z100 t98_fa) hZ (hw _ (List.mem_of_getElem? (i := 69) rfl)) (hw _ (List.mem_of_getElem? (i := 3) rfl)) (by decide) (by decide)) q107a q107c (g := (mkF mt 212 #[.val (.long a0_), .second, .val (.long b0_), .second, .val (.long c0_), .second, .val (.int n_), .val (.long xx), .second, .val (.long yy), .second, .val (.long zz), .second, .val (.int (3 : Int32)), .val (.ref b57), .val (.long ((((0 : Int64) + xx) + yy) + zz)), .second, .val (.long m2), .second, .val (.long (((((0 : Int64) + xx) + yy) + zz) / ((3 : Int32).toInt64))), .second] [(.ref b57)])) rfl (by rw [hml]; rfl) (Steps.refl _) (argsL := []) (rest := []) (lenOf pd_2 rfl) rfl (by show 2 * 0 + _ ≤ _; exact Nat.le_of_eq rfl) (hb hby at_212) (fun _ _ => ⟨rfl, e106, (by decide : 2 + 0 ≤ _), (by decide : 15 + 0 ≤ _)⟩)
        dsimp only [Pt.U, Pt.locs, Pt.cells, Pt.slots] at X107 l107 y107 z107 st107 hQ107
        subst y107 z107
        replace X107 : Stand p l e _ s mt args below meth cd T107 L107 2 15 := X107
        obtain ⟨h107, e107⟩ : ∃ z, T107.heap = z := ⟨_, rfl⟩
        rw [e107] at hQ107
        obtain ⟨rfl, Nq107, eh107⟩ := hQ107
        have N107 : Fr n0 L107 := by rw [l107]; exact Fr.app N106 Nq107
        rw [eh107] at e107
        refine Win.tr ?_ st107
        show Win p e below _ T107 (mkF mt 215 #[.val (.long a0_), .second, .val (.long b0_), .second, .val (.long c0_), .second, .val (.int n_), .val (.long xx), .second, .val (.long yy), .second, .val (.long zz), .second, .val (.int (3 : Int32)), .val (.ref b57), .val (.long ((((0 : Int64) + xx) + yy) + zz)), .second, .val (.long m2), .second, .val (.long (((((0 : Int64) + xx) + yy) + zz) / ((3 : Int32).toInt64))), .second] [(.long (0 : Int64))])
        refine Win.st ?_ (fun tq kq => XS.lconst X107.here hx rfl (hb hby at_215) kq)
        show Win p e below _ T107 (mkF mt 216 #[.val (.long a0_), .second, .val (.long b0_), .second, .val (.long c0_), .second, .val (.int n_), .val (.long xx), .second, .val (.long yy), .second, .val (.long zz), .second, .val (.int (3 : Int32)), .val (.ref b57), .val (.long ((((0 : Int64) + xx) + yy) + zz)), .second, .val (.long m2), .second, .val (.long (((((0 : Int64) + xx) + yy) + zz) / ((3 : Int32).toInt64))), .second] [(.long (0 : Int64)), (.long (0 : Int64))])
        refine Win.st ?_ (fun tq kq => XS.lcmp X107.here hx rfl (hb hby at_216) rfl kq)
        show Win p e below _ T107 (mkF mt 217 #[.val (.long a0_), .second, .val (.long b0_), .second, .val (.long c0_), .second, .val (.int n_), .val (.long xx), .second, .val (.long yy), .second, .val (.long zz), .second, .val (.int (3 : Int32)), .val (.ref b57), .val (.long ((((0 : Int64) + xx) + yy) + zz)), .second, .val (.long m2), .second, .val (.long (((((0 : Int64) + xx) + yy) + zz) / ((3 : Int32).toInt64))), .second] [(.int (lcmpW (0 : Int64) (0 : Int64)))])
        refine Win.st ?_ (fun tq kq => XS.ifNo X107.here hx rfl (hb hby at_217) rfl ((if0 _ _).trans (teq ((lw_eq _ _).mpr rfl)).2) kq)
        show Win p e below _ T107 (mkF mt 220 #[.val (.long a0_), .second, .val (.long b0_), .second, .val (.long c0_), .second, .val (.int n_), .val (.long xx), .second, .val (.long yy), .second, .val (.long zz), .second, .val (.int (3 : Int32)), .val (.ref b57), .val (.long ((((0 : Int64) + xx) + yy) + zz)), .second, .val (.long m2), .second, .val (.long (((((0 : Int64) + xx) + yy) + zz) / ((3 : Int32).toInt64))), .second] [])
        refine Win.st ?_ (fun tq kq => XS.aload X107.here hx rfl (hb hby at_220) rfl rfl kq)
        show Win p e below _ T107 (mkF mt 222 #[.val (.long a0_), .second, .val (.long b0_), .second, .val (.long c0_), .second, .val (.int n_), .val (.long xx), .second, .val (.long yy), .second, .val (.long zz), .second, .val (.int (3 : Int32)), .val (.ref b57), .val (.long ((((0 : Int64) + xx) + yy) + zz)), .second, .val (.long m2), .second, .val (.long (((((0 : Int64) + xx) + yy) + zz) / ((3 : Int32).toInt64))), .second] [(.ref b57)])
        obtain ⟨cq108, kq108, q108a, q108b, q108c⟩ := isOf hZ e107 f99_803
        obtain ⟨v108, _, ⟨T108, L108, k108, n108⟩, -, X108, ⟨Lc108, hQ108, l108, y108, z108⟩, st108⟩ := X107.virtualBack hx (y := (⟨"com/example/interleave/interleave/Tally", "retried", "()J"⟩ : MethodName)) (z := (⟨"com/example/interleave/interleave/Tally", "retried", "()J"⟩ : MethodName)) hown (mvT hZ (hw _ (List.mem_of_getElem? (i := 72) rfl))) (mvT hZ (hw _ (List.mem_of_getElem? (i := 73) rfl))) (notFace_of_selects (args := #[]) (mvT hZ (hw _ (List.mem_of_getElem? (i := 75) rfl)))) (mvT hZ (hw _ (List.mem_of_getElem? (i := 75) rfl))) (mvT hZ (hw _ (List.mem_of_getElem? (i := 74) rfl))) (by decide) (backOf (W := 0) (rm_gretried l Z a0 hw [] b57 (0 : Int64) h98 n0 Z100 t98_re) hZ (hw _ (List.mem_of_getElem? (i := 76) rfl)) (hw _ (List.mem_of_getElem? (i := 3) rfl)) (by decide) (by decide)) q108a q108c (g := (mkF mt 222 #[.val (.long a0_), .second, .val (.long b0_), .second, .val (.long c0_), .second, .val (.int n_), .val (.long xx), .second, .val (.long yy), .second, .val (.long zz), .second, .val (.int (3 : Int32)), .val (.ref b57), .val (.long ((((0 : Int64) + xx) + yy) + zz)), .second, .val (.long m2), .second, .val (.long (((((0 : Int64) + xx) + yy) + zz) / ((3 : Int32).toInt64))), .second] [(.ref b57)])) rfl (by rw [hml]; rfl) (Steps.refl _) (argsL := []) (rest := []) (lenOf pd_2 rfl) rfl (by show 2 * 0 + _ ≤ _; exact Nat.le_of_eq rfl) (hb hby at_222) (fun _ _ => ⟨rfl, e107, (by decide : 2 + 0 ≤ _), (by decide : 15 + 0 ≤ _)⟩)
        dsimp only [Pt.U, Pt.locs, Pt.cells, Pt.slots] at X108 l108 y108 z108 st108 hQ108
        subst y108 z108
        replace X108 : Stand p l e _ s mt args below meth cd T108 L108 2 15 := X108
        obtain ⟨h108, e108⟩ : ∃ z, T108.heap = z := ⟨_, rfl⟩
        rw [e108] at hQ108
        obtain ⟨rfl, Nq108, eh108⟩ := hQ108
        have N108 : Fr n0 L108 := by rw [l108]; exact Fr.app N107 Nq108
        rw [eh108] at e108
        refine Win.tr ?_ st108
        show Win p e below _ T108 (mkF mt 225 #[.val (.long a0_), .second, .val (.long b0_), .second, .val (.long c0_), .second, .val (.int n_), .val (.long xx), .second, .val (.long yy), .second, .val (.long zz), .second, .val (.int (3 : Int32)), .val (.ref b57), .val (.long ((((0 : Int64) + xx) + yy) + zz)), .second, .val (.long m2), .second, .val (.long (((((0 : Int64) + xx) + yy) + zz) / ((3 : Int32).toInt64))), .second] [(.long (0 : Int64))])
        refine Win.st ?_ (fun tq kq => XS.lconst X108.here hx rfl (hb hby at_225) kq)
        show Win p e below _ T108 (mkF mt 226 #[.val (.long a0_), .second, .val (.long b0_), .second, .val (.long c0_), .second, .val (.int n_), .val (.long xx), .second, .val (.long yy), .second, .val (.long zz), .second, .val (.int (3 : Int32)), .val (.ref b57), .val (.long ((((0 : Int64) + xx) + yy) + zz)), .second, .val (.long m2), .second, .val (.long (((((0 : Int64) + xx) + yy) + zz) / ((3 : Int32).toInt64))), .second] [(.long (0 : Int64)), (.long (0 : Int64))])
        refine Win.st ?_ (fun tq kq => XS.lcmp X108.here hx rfl (hb hby at_226) rfl kq)
        show Win p e below _ T108 (mkF mt 227 #[.val (.long a0_), .second, .val (.long b0_), .second, .val (.long c0_), .second, .val (.int n_), .val (.long xx), .second, .val (.long yy), .second, .val (.long zz), .second, .val (.int (3 : Int32)), .val (.ref b57), .val (.long ((((0 : Int64) + xx) + yy) + zz)), .second, .val (.long m2), .second, .val (.long (((((0 : Int64) + xx) + yy) + zz) / ((3 : Int32).toInt64))), .second] [(.int (lcmpW (0 : Int64) (0 : Int64)))])
        refine Win.st ?_ (fun tq kq => XS.ifNo X108.here hx rfl (hb hby at_227) rfl ((if0 _ _).trans (teq ((lw_eq _ _).mpr rfl)).2) kq)
        show Win p e below _ T108 (mkF mt 230 #[.val (.long a0_), .second, .val (.long b0_), .second, .val (.long c0_), .second, .val (.int n_), .val (.long xx), .second, .val (.long yy), .second, .val (.long zz), .second, .val (.int (3 : Int32)), .val (.ref b57), .val (.long ((((0 : Int64) + xx) + yy) + zz)), .second, .val (.long m2), .second, .val (.long (((((0 : Int64) + xx) + yy) + zz) / ((3 : Int32).toInt64))), .second] [])
        refine Win.st ?_ (fun tq kq => XS.iconst X108.here hx rfl (hb hby at_230) kq)
        show Win p e below _ T108 (mkF mt 231 #[.val (.long a0_), .second, .val (.long b0_), .second, .val (.long c0_), .second, .val (.int n_), .val (.long xx), .second, .val (.long yy), .second, .val (.long zz), .second, .val (.int (3 : Int32)), .val (.ref b57), .val (.long ((((0 : Int64) + xx) + yy) + zz)), .second, .val (.long m2), .second, .val (.long (((((0 : Int64) + xx) + yy) + zz) / ((3 : Int32).toInt64))), .second] [(.int (1 : Int32))])
        refine Win.st ?_ (fun tq kq => XS.goto X108.here hx rfl (pc0 := 231) (pc' := 235) rfl (hb hby at_231) (by decide) (by decide) kq)
        show Win p e below _ T108 (mkF mt 235 #[.val (.long a0_), .second, .val (.long b0_), .second, .val (.long c0_), .second, .val (.int n_), .val (.long xx), .second, .val (.long yy), .second, .val (.long zz), .second, .val (.int (3 : Int32)), .val (.ref b57), .val (.long ((((0 : Int64) + xx) + yy) + zz)), .second, .val (.long m2), .second, .val (.long (((((0 : Int64) + xx) + yy) + zz) / ((3 : Int32).toInt64))), .second] [(.int (1 : Int32))])
        exact Win.retN X108 hx hlk e108 (t := .boolean) (z' := (1 : Int32)) hrt (by simp) (hb hby at_235) (by decide) (by decide) rfl ⟨rfl, N108⟩
      by_cases hc142 : (0 : Int32) < (lcmpW zz m1)
      · refine Win.st ?_ (fun tq kq => XS.ifNo X101.here hx rfl (hb hby at_142) rfl ((if0 _ _).trans (tlt hc142).2.2.2) kq)
        show Win p e below _ T101 (mkF mt 145 #[.val (.long a0_), .second, .val (.long b0_), .second, .val (.long c0_), .second, .val (.int n_), .val (.long xx), .second, .val (.long yy), .second, .val (.long zz), .second, .val (.int (3 : Int32)), .val (.ref b57), .val (.long ((((0 : Int64) + xx) + yy) + zz)), .second, .val (.long m1), .second, .unset, .unset] [])
        refine Win.st ?_ (fun tq kq => XS.lload X101.here hx rfl (hb hby at_145) rfl kq)
        show Win p e below _ T101 (mkF mt 147 #[.val (.long a0_), .second, .val (.long b0_), .second, .val (.long c0_), .second, .val (.int n_), .val (.long xx), .second, .val (.long yy), .second, .val (.long zz), .second, .val (.int (3 : Int32)), .val (.ref b57), .val (.long ((((0 : Int64) + xx) + yy) + zz)), .second, .val (.long m1), .second, .unset, .unset] [(.long zz)])
        refine Win.st ?_ (fun tq kq => XS.lstore X101.here hx rfl (hb hby at_147) rfl (l' := #[.val (.long a0_), .second, .val (.long b0_), .second, .val (.long c0_), .second, .val (.int n_), .val (.long xx), .second, .val (.long yy), .second, .val (.long zz), .second, .val (.int (3 : Int32)), .val (.ref b57), .val (.long ((((0 : Int64) + xx) + yy) + zz)), .second, .val (.long zz), .second, .unset, .unset]) rfl kq)
        show Win p e below _ T101 (mkF mt 149 #[.val (.long a0_), .second, .val (.long b0_), .second, .val (.long c0_), .second, .val (.int n_), .val (.long xx), .second, .val (.long yy), .second, .val (.long zz), .second, .val (.int (3 : Int32)), .val (.ref b57), .val (.long ((((0 : Int64) + xx) + yy) + zz)), .second, .val (.long zz), .second, .unset, .unset] [])
        exact jm2 T101 _ (zz) X101 e101 N101 ((own_maxY hc142).symm)
      · refine Win.st ?_ (fun tq kq => XS.ifYes X101.here hx rfl (pc0 := 142) (pc' := 149) rfl (hb hby at_142) rfl ((if0 _ _).trans (flt hc142).2.2.2) (by decide) (by decide) kq)
        show Win p e below _ T101 (mkF mt 149 #[.val (.long a0_), .second, .val (.long b0_), .second, .val (.long c0_), .second, .val (.int n_), .val (.long xx), .second, .val (.long yy), .second, .val (.long zz), .second, .val (.int (3 : Int32)), .val (.ref b57), .val (.long ((((0 : Int64) + xx) + yy) + zz)), .second, .val (.long m1), .second, .unset, .unset] [])
        exact jm2 T101 _ (m1) X101 e101 N101 ((own_maxN hc142).symm)
    by_cases hc117 : (0 : Int32) < (lcmpW yy xx)
    · refine Win.st ?_ (fun tq kq => XS.ifNo X98.here hx rfl (hb hby at_117) rfl ((if0 _ _).trans (tlt hc117).2.2.2) kq)
      show Win p e below _ T98 (mkF mt 120 #[.val (.long a0_), .second, .val (.long b0_), .second, .val (.long c0_), .second, .val (.int n_), .val (.long xx), .second, .val (.long yy), .second, .val (.long zz), .second, .val (.int (3 : Int32)), .val (.ref b57), .val (.long (((0 : Int64) + xx) + yy)), .second, .val (.long xx), .second, .unset, .unset] [])
      refine Win.st ?_ (fun tq kq => XS.lload X98.here hx rfl (hb hby at_120) rfl kq)
      show Win p e below _ T98 (mkF mt 122 #[.val (.long a0_), .second, .val (.long b0_), .second, .val (.long c0_), .second, .val (.int n_), .val (.long xx), .second, .val (.long yy), .second, .val (.long zz), .second, .val (.int (3 : Int32)), .val (.ref b57), .val (.long (((0 : Int64) + xx) + yy)), .second, .val (.long xx), .second, .unset, .unset] [(.long yy)])
      refine Win.st ?_ (fun tq kq => XS.lstore X98.here hx rfl (hb hby at_122) rfl (l' := #[.val (.long a0_), .second, .val (.long b0_), .second, .val (.long c0_), .second, .val (.int n_), .val (.long xx), .second, .val (.long yy), .second, .val (.long zz), .second, .val (.int (3 : Int32)), .val (.ref b57), .val (.long (((0 : Int64) + xx) + yy)), .second, .val (.long yy), .second, .unset, .unset]) rfl kq)
      show Win p e below _ T98 (mkF mt 124 #[.val (.long a0_), .second, .val (.long b0_), .second, .val (.long c0_), .second, .val (.int n_), .val (.long xx), .second, .val (.long yy), .second, .val (.long zz), .second, .val (.int (3 : Int32)), .val (.ref b57), .val (.long (((0 : Int64) + xx) + yy)), .second, .val (.long yy), .second, .unset, .unset] [])
      exact jm1 T98 _ (yy) X98 e98 N98 ((own_maxY hc117).symm)
    · refine Win.st ?_ (fun tq kq => XS.ifYes X98.here hx rfl (pc0 := 117) (pc' := 124) rfl (hb hby at_117) rfl ((if0 _ _).trans (flt hc117).2.2.2) (by decide) (by decide) kq)
      show Win p e below _ T98 (mkF mt 124 #[.val (.long a0_), .second, .val (.long b0_), .second, .val (.long c0_), .second, .val (.int n_), .val (.long xx), .second, .val (.long yy), .second, .val (.long zz), .second, .val (.int (3 : Int32)), .val (.ref b57), .val (.long (((0 : Int64) + xx) + yy)), .second, .val (.long xx), .second, .unset, .unset] [])
      exact jm1 T98 _ (xx) X98 e98 N98 ((own_maxN hc117).symm)
set_option maxRecDepth 65536 in
set_option maxHeartbeats 40000000 in
theorem comes_1 {Post : Tables → Env → Array Value → State → Outcome → State → Prop} (hpost : ∀ tb e args s v u, (limb_1_1.after args s (.returned v) u = true ∧ limb_1_2.after args s (.returned v) u = true ∧ True) → FrameEnd s (.returned v) u (Jvm.fieldLocs frame_1_writes args s ++ Jvm.arrayLocs frame_1_arrays args s ++ Jvm.staticLocs frame_1_statics s) 16 128 → Post tb e args s (.returned v) u) :
    ArmFor flags0 classFile x code maxLocals ret World_1 tables_1 room_1 Calls_1 rest_1 Pre_1 Post := by
  intro l hfl _ _ p e ha hc hk s m args below hf hA hF happ hP
  obtain ⟨hcalls, hrest, hpre⟩ := hP
  obtain ⟨-, -, -, hnamed, -, -, -, hat⟩ := (Spec.applies_iff hf).mp happ
  obtain ⟨hg, hn⟩ := and_e (Cond.before_iff.mp (show (Jvm.Cond.and given_1 narrow_1).before args s = true from hpre))
  obtain ⟨ga0, gb0⟩ := and_e hg
  obtain ⟨ga1, gb1⟩ := and_e gb0
  obtain ⟨ga2, gb2⟩ := and_e gb1
  obtain ⟨ga3, gb3⟩ := and_e gb2
  obtain ⟨w0, w1, w2, w3, rfl⟩ : ∃ w0 w1 w2 w3 : Value, args = #[w0, w1, w2, w3] := by
    have hs : args.size = 4 := by simpa [Cond.value, given_1] using ga0
    obtain ⟨L⟩ := args
    match L, hs with
    | [w0, w1, w2, w3], _ => exact ⟨w0, w1, w2, w3, rfl⟩
  have hw := fun d (hd : d ∈ tables_1) => atoms_spec (ws := Jvm.Cond.code x code maxLocals ret :: tables_1) hat d (List.mem_cons_of_mem _ hd)
  have hfit : Fit s := fun {y c} hc i hi => by
    obtain ⟨ha, rfl⟩ := Array.getElem?_eq_some_iff.mp hc
    have q := List.all_eq_true.mp ((Array.all_eq_true_iff_forall_mem.mp hF) _ (Array.getElem_mem ha)) i (List.mem_range.mpr hi)
    simpa [Array.getElem?_eq_getElem hi] using q
  obtain ⟨i0, ei0⟩ := isL_v ga1
  obtain rfl : w0 = (.long i0) := Option.some.inj ei0
  obtain ⟨i1, ei1⟩ := isL_v ga2
  obtain rfl : w1 = (.long i1) := Option.some.inj ei1
  obtain ⟨i2, ei2⟩ := isL_v ga3
  obtain rfl : w2 = (.long i2) := Option.some.inj ei2
  obtain ⟨i3, ei3⟩ := is_v gb3
  obtain rfl : w3 = (.int i3) := Option.some.inj ei3
  obtain ⟨n, o, h1, h2, h3, _, L, rfl, ⟨rfl, N⟩, hq⟩ := rm_law l s _ hw tables_1 i0 i1 i2 i3  s.heap s.heap.size (Nat.le_refl _)  p e ha hc hk s m _ below hf ((Spec.applies_iff_loose hf).mp happ).1 ⟨rfl, State.Warmed39.refl s, rfl⟩ trivial
  refine ⟨n, _, h1, h2, h3, hpost _ _ _ _ _ _ ⟨Cond.after_iff.mpr rfl, Cond.after_iff.mpr (eq_i res_at (Term.int_eval (1)) rfl), trivial⟩ ⟨hq.1, hq.2.1, (hq.2.2.sift fun y hy => Or.inr (N y hy)).mono (by decide) (by decide)⟩⟩
theorem main_1_1 : Claimed_1_1 := comes_1 fun _ _ _ _ _ _ h hF => ⟨h.1, hF⟩
theorem main_1_2 : Claimed_1_2 := comes_1 fun _ _ _ _ _ _ h hF => ⟨h.2.1, hF⟩
end Jvm.Pilot.@@N@@
namespace Jvm.Pilot.@@N@@
open Jvm Jvm.ClassFile Sem Op Lib Jvm.Free Jvm.Stand Jvm.Pilot.@@N@@.Jvm.D
/-! MADE BY PROGRAM (witnessworld.py) out of the Statement's table words and the real class files: 13 classes; the members and pool entries that the words name. The judged class is class 1, her method 1. -/
namespace start1
open Jvm.ClassFile
def u (s : String) : CpInfo := .utf8 (stringToUtf16 s)
/-- a pool by its gaps: so many unusable entries, then the entry; so many at the end -/
def gap : Nat → List CpInfo → List CpInfo
  | 0, r => r
  | n + 1, r => .unusable :: gap n r
def poolList (es : List (Nat × CpInfo)) (last : Nat) : List CpInfo := es.foldr (fun e r => gap e.1 (e.2 :: r)) (gap last [])
def pool (es : List (Nat × CpInfo)) (last : Nat) : Array CpInfo := ⟨poolList es last⟩
def fileOf (pool : Array CpInfo) (this : Nat) (attrs : Array Attribute := #[]) (ms : Array MethodInfo := #[]) (fl : Nat := 33) (sup : Nat := 0) (ifs : Array Nat := #[]) (fds : Array FieldInfo := #[]) : ClassFile where
  minorVersion := 0
  majorVersion := 65
  constantPool := pool
  accessFlags := fl
  thisClass := this
  superClass := sup
  interfaces := ifs
  fields := fds
  methods := ms
  attributes := attrs
def plain (name : String) (sup : Option ClassId) : Class where
  name := name
  kind := .ordinary
  loader := none
  accessFlags := 33
  super := sup
  interfaces := #[]
  cf := none
  fields := #[]
  methods := #[]
  instanceTypes := #[]
  staticTypes := #[]
  resolved := #[]
  callSites := []
  init := .initialized
  statics := none
  mirror := none

def pool0 : Array CpInfo := pool [(5, u "<init>"), (0, u "()V"), (1, .class_ 10), (1, u "java/lang/Object")] 113

def k0c0 : Code := { maxStack := 0, maxLocals := 1, code := object_method_1_code, exceptionTable := #[], attributes := #[] }
def k0m0 : Method := { name := "<init>", desc := "()V", sig := { parameters := [], returnType := none }, accessFlags := 1, code := some k0c0 }
/-- java/lang/Object -/
def k0 : Class := { plain "java/lang/Object" none with
  accessFlags := 33
  interfaces := #[]
  cf := some (fileOf pool0 8 #[] #[{ accessFlags := 1, nameIndex := 5, descriptorIndex := 6, attributes := #[] }] 33 0 #[] #[])
  fields := #[]
  methods := #[k0m0]
  instanceTypes := #[]
  staticTypes := #[]
  resolved := Array.replicate 124 none
  statics := none }

def pool1 : Array CpInfo := pool [(2, .class_ 4), (0, .nameAndType 5 6), (0, u "java/lang/Object"), (0, u "<init>"), (0, u "()V"), (0, .long 2305843009213693951), (1, .class_ 10), (0, u "com/example/interleave/interleave/Tally"), (0, .methodref 9 3), (0, .methodref 9 13), (0, .nameAndType 14 15), (0, u "commit"), (0, u "(J)V"), (0, .methodref 9 17), (0, .nameAndType 18 19), (0, u "committed"), (0, u "()J"), (0, .methodref 9 21), (0, .nameAndType 22 19), (0, u "averageNanos"), (0, .methodref 9 24), (0, .nameAndType 25 19), (0, u "longestNanos"), (0, .methodref 9 27), (0, .nameAndType 28 19), (0, u "started"), (0, .methodref 9 30), (0, .nameAndType 31 19), (0, u "failed"), (0, .methodref 9 33), (0, .nameAndType 34 19), (0, u "retried"), (0, .class_ 36), (0, u "com/example/interleave/interleave/TallyCommitPinLaw"), (2, u "law"), (0, u "(JJJI)Z")] 3

def k1m0 : Method := { name := "<init>", desc := "()V", sig := { parameters := [], returnType := none }, accessFlags := 1, code := none }
def k1c1 : Code := { maxStack := 4, maxLocals := 21, code := code, exceptionTable := #[], attributes := #[] }
def k1m1 : Method := { name := "law", desc := "(JJJI)Z", sig := { parameters := [.long, .long, .long, .int], returnType := some .boolean }, accessFlags := 9, code := some k1c1 }
/-- com/example/interleave/interleave/TallyCommitPinLaw -/
def k1 : Class := { plain "com/example/interleave/interleave/TallyCommitPinLaw" (some 0) with
  accessFlags := 49
  interfaces := #[]
  cf := some (fileOf pool1 35 #[] #[{ accessFlags := 1, nameIndex := 5, descriptorIndex := 6, attributes := #[] }, { accessFlags := 9, nameIndex := 39, descriptorIndex := 40, attributes := #[] }] 49 2 #[] #[])
  fields := #[]
  methods := #[k1m0, k1m1]
  instanceTypes := #[]
  staticTypes := #[]
  resolved := Array.replicate 44 none
  statics := none }

def pool2 : Array CpInfo := pool [(1, .methodref 2 3), (0, .class_ 4), (0, .nameAndType 5 6), (0, u "java/lang/Object"), (0, u "<init>"), (0, u "()V"), (0, .class_ 8), (0, u "java/util/HashMap"), (0, .methodref 7 3), (0, .fieldref 11 12), (0, .class_ 13), (0, .nameAndType 14 15), (0, u "com/example/interleave/interleave/Tally"), (0, u "failures"), (0, u "Ljava/util/Map;"), (0, .fieldref 11 17), (0, .nameAndType 18 19), (0, u "started"), (0, u "J"), (0, .fieldref 11 21), (0, .nameAndType 22 19), (0, u "committed"), (0, .fieldref 11 24), (0, .nameAndType 25 19), (0, u "committedNanos"), (0, .fieldref 11 27), (0, .nameAndType 28 19), (0, u "longestNanos"), (0, .methodref 30 31), (0, .class_ 32), (0, .nameAndType 33 34), (0, u "java/lang/Math"), (0, u "max"), (0, u "(JJ)J"), (16, .fieldref 11 52), (0, .nameAndType 53 19), (0, u "retried"), (0, .fieldref 11 55), (0, .nameAndType 56 19), (0, u "failed"), (35, u "NAMED_FAILURES"), (0, u "Ljava/util/List;"), (51, u "CONFLICT"), (0, u "Ljava/lang/String;"), (1, u "CUT_SHORT"), (8, u "commit"), (0, u "(J)V"), (6, u "()J"), (2, u "averageNanos")] 28

def k2c0 : Code := { maxStack := 3, maxLocals := 1, code := prog_84_method_1_code, exceptionTable := #[], attributes := #[] }
def k2m0 : Method := { name := "<init>", desc := "()V", sig := { parameters := [], returnType := none }, accessFlags := 0, code := some k2c0 }
def k2c1 : Code := { maxStack := 5, maxLocals := 3, code := prog_84_method_3_code, exceptionTable := #[], attributes := #[] }
def k2m1 : Method := { name := "commit", desc := "(J)V", sig := { parameters := [.long], returnType := none }, accessFlags := 0, code := some k2c1 }
def k2c2 : Code := { maxStack := 2, maxLocals := 1, code := prog_84_method_8_code, exceptionTable := #[], attributes := #[] }
def k2m2 : Method := { name := "started", desc := "()J", sig := { parameters := [], returnType := some .long }, accessFlags := 0, code := some k2c2 }
def k2c3 : Code := { maxStack := 2, maxLocals := 1, code := prog_84_method_9_code, exceptionTable := #[], attributes := #[] }
def k2m3 : Method := { name := "committed", desc := "()J", sig := { parameters := [], returnType := some .long }, accessFlags := 0, code := some k2c3 }
def k2c4 : Code := { maxStack := 2, maxLocals := 1, code := prog_84_method_10_code, exceptionTable := #[], attributes := #[] }
def k2m4 : Method := { name := "failed", desc := "()J", sig := { parameters := [], returnType := some .long }, accessFlags := 0, code := some k2c4 }
def k2c5 : Code := { maxStack := 2, maxLocals := 1, code := prog_84_method_11_code, exceptionTable := #[], attributes := #[] }
def k2m5 : Method := { name := "retried", desc := "()J", sig := { parameters := [], returnType := some .long }, accessFlags := 0, code := some k2c5 }
def k2c6 : Code := { maxStack := 4, maxLocals := 1, code := prog_84_method_13_code, exceptionTable := #[], attributes := #[] }
def k2m6 : Method := { name := "averageNanos", desc := "()J", sig := { parameters := [], returnType := some .long }, accessFlags := 0, code := some k2c6 }
def k2c7 : Code := { maxStack := 2, maxLocals := 1, code := prog_84_method_14_code, exceptionTable := #[], attributes := #[] }
def k2m7 : Method := { name := "longestNanos", desc := "()J", sig := { parameters := [], returnType := some .long }, accessFlags := 0, code := some k2c7 }
/-- com/example/interleave/interleave/Tally -/
def k2 : Class := { plain "com/example/interleave/interleave/Tally" (some 0) with
  accessFlags := 48
  interfaces := #[]
  cf := some (fileOf pool2 11 #[] #[{ accessFlags := 0, nameIndex := 5, descriptorIndex := 6, attributes := #[] }, { accessFlags := 0, nameIndex := 157, descriptorIndex := 158, attributes := #[] }, { accessFlags := 0, nameIndex := 18, descriptorIndex := 165, attributes := #[] }, { accessFlags := 0, nameIndex := 22, descriptorIndex := 165, attributes := #[] }, { accessFlags := 0, nameIndex := 56, descriptorIndex := 165, attributes := #[] }, { accessFlags := 0, nameIndex := 53, descriptorIndex := 165, attributes := #[] }, { accessFlags := 0, nameIndex := 168, descriptorIndex := 165, attributes := #[] }, { accessFlags := 0, nameIndex := 28, descriptorIndex := 165, attributes := #[] }] 48 2 #[] #[{ accessFlags := 24, nameIndex := 145, descriptorIndex := 146, attributes := #[] }, { accessFlags := 24, nameIndex := 148, descriptorIndex := 146, attributes := #[] }, { accessFlags := 26, nameIndex := 92, descriptorIndex := 93, attributes := #[] }, { accessFlags := 2, nameIndex := 18, descriptorIndex := 19, attributes := #[] }, { accessFlags := 2, nameIndex := 22, descriptorIndex := 19, attributes := #[] }, { accessFlags := 2, nameIndex := 56, descriptorIndex := 19, attributes := #[] }, { accessFlags := 2, nameIndex := 53, descriptorIndex := 19, attributes := #[] }, { accessFlags := 2, nameIndex := 25, descriptorIndex := 19, attributes := #[] }, { accessFlags := 2, nameIndex := 28, descriptorIndex := 19, attributes := #[] }, { accessFlags := 18, nameIndex := 14, descriptorIndex := 15, attributes := #[] }])
  fields := #[{ name := "CONFLICT", type := (.object "java/lang/String"), accessFlags := 24, slot := 0, constantValue := 0 }, { name := "CUT_SHORT", type := (.object "java/lang/String"), accessFlags := 24, slot := 1, constantValue := 0 }, { name := "NAMED_FAILURES", type := (.object "java/util/List"), accessFlags := 26, slot := 2, constantValue := 0 }, { name := "started", type := .long, accessFlags := 2, slot := 0, constantValue := 0 }, { name := "committed", type := .long, accessFlags := 2, slot := 1, constantValue := 0 }, { name := "failed", type := .long, accessFlags := 2, slot := 2, constantValue := 0 }, { name := "retried", type := .long, accessFlags := 2, slot := 3, constantValue := 0 }, { name := "committedNanos", type := .long, accessFlags := 2, slot := 4, constantValue := 0 }, { name := "longestNanos", type := .long, accessFlags := 2, slot := 5, constantValue := 0 }, { name := "failures", type := (.object "java/util/Map"), accessFlags := 18, slot := 6, constantValue := 0 }]
  methods := #[k2m0, k2m1, k2m2, k2m3, k2m4, k2m5, k2m6, k2m7]
  instanceTypes := #[.long, .long, .long, .long, .long, .long, (.object "java/util/Map")]
  staticTypes := #[(.object "java/lang/String"), (.object "java/lang/String"), (.object "java/util/List")]
  resolved := Array.replicate 197 none
  statics := none }

def pool3 : Array CpInfo := pool [(2, .class_ 4), (1, u "java/util/Map"), (31, .class_ 37), (0, u "java/util/Map$Entry"), (55, .class_ 94), (0, u "java/lang/Object")] 168

/-- java/util/Map -/
def k3 : Class := { plain "java/util/Map" (some 0) with
  accessFlags := 1537
  interfaces := #[]
  cf := some (fileOf pool3 2 #[.nestMembers #[36]] #[] 1537 93 #[] #[])
  fields := #[]
  methods := #[]
  instanceTypes := #[]
  staticTypes := #[]
  resolved := Array.replicate 263 none
  statics := none }

def pool4 : Array CpInfo := pool [(1, .methodref 2 3), (0, .class_ 4), (0, .nameAndType 5 6), (0, u "java/lang/Object"), (0, u "<init>"), (0, u "()V"), (1, .class_ 10), (1, u "java/util/AbstractMap"), (42, .class_ 54), (0, u "java/util/Map"), (9, u "keySet"), (0, u "Ljava/util/Set;"), (0, .class_ 67), (0, u "java/util/AbstractMap$1"), (5, u "values"), (0, u "Ljava/util/Collection;"), (0, .class_ 76), (0, u "java/util/AbstractMap$2"), (104, .class_ 182), (0, u "java/util/AbstractMap$ViewCollection"), (0, .class_ 184), (0, u "java/util/AbstractMap$SimpleImmutableEntry"), (0, .class_ 186), (0, u "java/util/AbstractMap$SimpleEntry"), (0, .class_ 188), (0, u "java/util/AbstractMap$2$1"), (0, .class_ 190), (0, u "java/util/AbstractMap$1$1")] 5

def k4c0 : Code := { maxStack := 1, maxLocals := 1, code := jdk_71_method_1_code, exceptionTable := #[], attributes := #[] }
def k4m0 : Method := { name := "<init>", desc := "()V", sig := { parameters := [], returnType := none }, accessFlags := 4, code := some k4c0 }
/-- java/util/AbstractMap -/
def k4 : Class := { plain "java/util/AbstractMap" (some 0) with
  accessFlags := 1057
  interfaces := #[3]
  cf := some (fileOf pool4 8 #[.nestMembers #[181, 183, 185, 75, 187, 66, 189]] #[{ accessFlags := 4, nameIndex := 5, descriptorIndex := 6, attributes := #[] }] 1057 2 #[53] #[{ accessFlags := 128, nameIndex := 64, descriptorIndex := 65, attributes := #[] }, { accessFlags := 128, nameIndex := 73, descriptorIndex := 74, attributes := #[] }])
  fields := #[{ name := "keySet", type := (.object "java/util/Set"), accessFlags := 128, slot := 0, constantValue := 0 }, { name := "values", type := (.object "java/util/Collection"), accessFlags := 128, slot := 1, constantValue := 0 }]
  methods := #[k4m0]
  instanceTypes := #[(.object "java/util/Set"), (.object "java/util/Collection")]
  staticTypes := #[]
  resolved := Array.replicate 196 none
  statics := none }

def pool5 : Array CpInfo := pool [(1, .class_ 2), (0, u "java/lang/Cloneable"), (0, .class_ 4), (0, u "java/lang/Object")] 2

/-- java/lang/Cloneable -/
def k5 : Class := { plain "java/lang/Cloneable" (some 0) with
  accessFlags := 1537
  interfaces := #[]
  cf := some (fileOf pool5 1 #[] #[] 1537 3 #[] #[])
  fields := #[]
  methods := #[]
  instanceTypes := #[]
  staticTypes := #[]
  resolved := Array.replicate 7 none
  statics := none }

def pool6 : Array CpInfo := pool [(1, .class_ 2), (0, u "java/io/Serializable"), (0, .class_ 4), (0, u "java/lang/Object")] 2

/-- java/io/Serializable -/
def k6 : Class := { plain "java/io/Serializable" (some 0) with
  accessFlags := 1537
  interfaces := #[]
  cf := some (fileOf pool6 1 #[] #[] 1537 3 #[] #[])
  fields := #[]
  methods := #[]
  instanceTypes := #[]
  staticTypes := #[]
  resolved := Array.replicate 7 none
  statics := none }

def pool7 : Array CpInfo := pool [(40, .class_ 41), (0, u "java/util/HashMap"), (1, .methodref 44 45), (0, .class_ 46), (0, .nameAndType 47 48), (0, u "java/util/AbstractMap"), (0, u "<init>"), (0, u "()V"), (32, .fieldref 40 82), (0, .nameAndType 83 84), (0, u "loadFactor"), (0, u "F"), (5, u "threshold"), (0, u "I"), (0, .float 1061158912), (8, .class_ 103), (1, u "java/util/Map"), (0, u "size"), (2, u "table"), (0, u "[Ljava/util/HashMap$Node;"), (14, u "entrySet"), (39, .class_ 165), (1, u "java/util/HashMap$Node"), (14, .class_ 181), (0, u "java/util/HashMap$TreeNode"), (22, u "modCount"), (37, u "Ljava/util/Set;"), (0, .class_ 244), (0, u "java/util/HashMap$KeySet"), (18, .class_ 264), (0, u "java/util/HashMap$Values"), (3, .class_ 269), (0, u "java/util/HashMap$EntrySet"), (76, .class_ 348), (1, u "java/util/HashMap$UnsafeHolder"), (43, .class_ 393), (0, u "java/lang/Cloneable"), (0, .class_ 395), (0, u "java/io/Serializable"), (0, u "serialVersionUID"), (0, u "J"), (3, u "DEFAULT_INITIAL_CAPACITY"), (1, u "MAXIMUM_CAPACITY"), (0, u "DEFAULT_LOAD_FACTOR"), (0, u "TREEIFY_THRESHOLD"), (1, u "UNTREEIFY_THRESHOLD"), (1, u "MIN_TREEIFY_CAPACITY"), (186, .class_ 597), (0, u "java/util/HashMap$EntrySpliterator"), (0, .class_ 599), (0, u "java/util/HashMap$ValueSpliterator"), (0, .class_ 601), (0, u "java/util/HashMap$KeySpliterator"), (0, .class_ 603), (0, u "java/util/HashMap$HashMapSpliterator"), (0, .class_ 605), (0, u "java/util/HashMap$EntryIterator"), (0, .class_ 607), (0, u "java/util/HashMap$ValueIterator"), (0, .class_ 609), (0, u "java/util/HashMap$KeyIterator"), (0, .class_ 611), (0, u "java/util/HashMap$HashIterator")] 17

def k7c0 : Code := { maxStack := 2, maxLocals := 1, code := jdk_69_method_7_code, exceptionTable := #[], attributes := #[] }
def k7m0 : Method := { name := "<init>", desc := "()V", sig := { parameters := [], returnType := none }, accessFlags := 1, code := some k7c0 }
/-- java/util/HashMap -/
def k7 : Class := { plain "java/util/HashMap" (some 4) with
  accessFlags := 33
  interfaces := #[3, 5, 6]
  cf := some (fileOf pool7 40 #[.nestMembers #[180, 596, 598, 600, 602, 604, 606, 608, 610, 346, 268, 263, 243, 163]] #[{ accessFlags := 1, nameIndex := 47, descriptorIndex := 48, attributes := #[] }] 33 44 #[101, 392, 394] #[{ accessFlags := 26, nameIndex := 396, descriptorIndex := 397, attributes := #[] }, { accessFlags := 24, nameIndex := 401, descriptorIndex := 91, attributes := #[] }, { accessFlags := 24, nameIndex := 403, descriptorIndex := 91, attributes := #[] }, { accessFlags := 24, nameIndex := 404, descriptorIndex := 84, attributes := #[] }, { accessFlags := 24, nameIndex := 405, descriptorIndex := 91, attributes := #[] }, { accessFlags := 24, nameIndex := 407, descriptorIndex := 91, attributes := #[] }, { accessFlags := 24, nameIndex := 409, descriptorIndex := 91, attributes := #[] }, { accessFlags := 128, nameIndex := 107, descriptorIndex := 108, attributes := #[] }, { accessFlags := 128, nameIndex := 123, descriptorIndex := 242, attributes := #[] }, { accessFlags := 128, nameIndex := 104, descriptorIndex := 91, attributes := #[] }, { accessFlags := 128, nameIndex := 204, descriptorIndex := 91, attributes := #[] }, { accessFlags := 0, nameIndex := 90, descriptorIndex := 91, attributes := #[] }, { accessFlags := 16, nameIndex := 83, descriptorIndex := 84, attributes := #[] }])
  fields := #[{ name := "serialVersionUID", type := .long, accessFlags := 26, slot := 0, constantValue := 0 }, { name := "DEFAULT_INITIAL_CAPACITY", type := .int, accessFlags := 24, slot := 1, constantValue := 0 }, { name := "MAXIMUM_CAPACITY", type := .int, accessFlags := 24, slot := 2, constantValue := 0 }, { name := "DEFAULT_LOAD_FACTOR", type := .float, accessFlags := 24, slot := 3, constantValue := 0 }, { name := "TREEIFY_THRESHOLD", type := .int, accessFlags := 24, slot := 4, constantValue := 0 }, { name := "UNTREEIFY_THRESHOLD", type := .int, accessFlags := 24, slot := 5, constantValue := 0 }, { name := "MIN_TREEIFY_CAPACITY", type := .int, accessFlags := 24, slot := 6, constantValue := 0 }, { name := "table", type := (.array (.object "java/util/HashMap$Node")), accessFlags := 128, slot := 2, constantValue := 0 }, { name := "entrySet", type := (.object "java/util/Set"), accessFlags := 128, slot := 3, constantValue := 0 }, { name := "size", type := .int, accessFlags := 128, slot := 4, constantValue := 0 }, { name := "modCount", type := .int, accessFlags := 128, slot := 5, constantValue := 0 }, { name := "threshold", type := .int, accessFlags := 0, slot := 6, constantValue := 0 }, { name := "loadFactor", type := .float, accessFlags := 16, slot := 7, constantValue := 0 }]
  methods := #[k7m0]
  instanceTypes := #[(.object "java/util/Set"), (.object "java/util/Collection"), (.array (.object "java/util/HashMap$Node")), (.object "java/util/Set"), .int, .int, .int, .float]
  staticTypes := #[.long, .int, .int, .float, .int, .int, .int]
  resolved := Array.replicate 629 none
  statics := none }

def pool8 : Array CpInfo := pool [(1, .class_ 2), (0, u "java/lang/Math"), (1, .class_ 6), (1, u "java/lang/Object"), (0, u "<init>"), (0, u "()V"), (89, .class_ 100), (1, u "java/lang/Math$RandomNumberGeneratorHolder"), (20, u "(JJ)J"), (50, u "negativeZeroFloatBits"), (0, u "J"), (2, u "negativeZeroDoubleBits"), (21, u "max"), (46, u "$assertionsDisabled"), (0, u "Z"), (91, u "twoToTheDoubleScaleDown"), (0, u "D"), (4, u "twoToTheDoubleScaleUp"), (9, u "E"), (3, u "PI"), (2, u "TAU"), (2, u "DEGREES_TO_RADIANS"), (0, u "RADIANS_TO_DEGREES")] 94

def k8m0 : Method := { name := "<init>", desc := "()V", sig := { parameters := [], returnType := none }, accessFlags := 2, code := none }
def k8c1 : Code := { maxStack := 4, maxLocals := 4, code := jdk_29_method_66_code, exceptionTable := #[], attributes := #[] }
def k8m1 : Method := { name := "max", desc := "(JJ)J", sig := { parameters := [.long, .long], returnType := some .long }, accessFlags := 9, code := some k8c1 }
/-- java/lang/Math -/
def k8 : Class := { plain "java/lang/Math" (some 0) with
  accessFlags := 49
  interfaces := #[]
  cf := some (fileOf pool8 1 #[.nestMembers #[98]] #[{ accessFlags := 2, nameIndex := 7, descriptorIndex := 8, attributes := #[] }, { accessFlags := 9, nameIndex := 198, descriptorIndex := 121, attributes := #[] }] 49 4 #[] #[{ accessFlags := 25, nameIndex := 354, descriptorIndex := 339, attributes := #[] }, { accessFlags := 25, nameIndex := 358, descriptorIndex := 339, attributes := #[] }, { accessFlags := 25, nameIndex := 361, descriptorIndex := 339, attributes := #[] }, { accessFlags := 26, nameIndex := 364, descriptorIndex := 339, attributes := #[] }, { accessFlags := 26, nameIndex := 365, descriptorIndex := 339, attributes := #[] }, { accessFlags := 26, nameIndex := 172, descriptorIndex := 173, attributes := #[] }, { accessFlags := 26, nameIndex := 176, descriptorIndex := 173, attributes := #[] }, { accessFlags := 8, nameIndex := 344, descriptorIndex := 339, attributes := #[] }, { accessFlags := 8, nameIndex := 338, descriptorIndex := 339, attributes := #[] }, { accessFlags := 4120, nameIndex := 245, descriptorIndex := 246, attributes := #[] }])
  fields := #[{ name := "E", type := .double, accessFlags := 25, slot := 0, constantValue := 0 }, { name := "PI", type := .double, accessFlags := 25, slot := 1, constantValue := 0 }, { name := "TAU", type := .double, accessFlags := 25, slot := 2, constantValue := 0 }, { name := "DEGREES_TO_RADIANS", type := .double, accessFlags := 26, slot := 3, constantValue := 0 }, { name := "RADIANS_TO_DEGREES", type := .double, accessFlags := 26, slot := 4, constantValue := 0 }, { name := "negativeZeroFloatBits", type := .long, accessFlags := 26, slot := 5, constantValue := 0 }, { name := "negativeZeroDoubleBits", type := .long, accessFlags := 26, slot := 6, constantValue := 0 }, { name := "twoToTheDoubleScaleUp", type := .double, accessFlags := 8, slot := 7, constantValue := 0 }, { name := "twoToTheDoubleScaleDown", type := .double, accessFlags := 8, slot := 8, constantValue := 0 }, { name := "$assertionsDisabled", type := .boolean, accessFlags := 4120, slot := 9, constantValue := 0 }]
  methods := #[k8m0, k8m1]
  instanceTypes := #[]
  staticTypes := #[.double, .double, .double, .double, .double, .long, .long, .double, .double, .boolean]
  resolved := Array.replicate 460 none
  statics := none }

/-- the primitive byte -/
def k9 : Class := { plain "byte" none with kind := .primitive 'B', accessFlags := 0x411 }
/-- [B -/
def k10 : Class := { plain "[B" (some 0) with kind := .array 9 .byte, interfaces := #[5, 6], accessFlags := 1041 }

/-- the primitive int -/
def k11 : Class := { plain "int" none with kind := .primitive 'I', accessFlags := 0x411 }
/-- [I -/
def k12 : Class := { plain "[I" (some 0) with kind := .array 11 .int, interfaces := #[5, 6], accessFlags := 1041 }

def heap : Heap := #[]
def classes : Array Class := #[k0, k1, k2, k3, k4, k5, k6, k7, k8, k9, k10, k11, k12]
def interned : List (Array UInt16 × Addr) := []
def slotsUsed : Nat := 0
def theMethod : MethodId := ⟨1, 1⟩
def args0 : Array Value := #[.long 5, .long 6, .long 7, .int 8]
def aboutOver (below : List Frame) : State where
  vm := { classes := classes, interned := interned.toArray }
  heap := heap
  slotsUsed := slotsUsed
  threads := #[{ frames := .invoking theMethod args0 :: below }]
def below0 : List Frame := [.native { method := ⟨0, 0⟩, args := #[] }]
def about1 : State := aboutOver below0
def p0 : Program := .bare "" "" ""
def e0 : Env := launch0.env 0 0 0
theorem w_frames : about1.frames = Frame.invoking theMethod args0 :: below0 := rfl
set_option maxRecDepth 65536 in
theorem w_args : argsFit about1.vm theMethod args0 = true := by decide +kernel
set_option maxRecDepth 65536 in
theorem w_heap : heapFits about1 = true := by decide +kernel
set_option maxRecDepth 65536 in
theorem w_runnable : about1.curStatus? = some .runnable := by decide +kernel
set_option maxRecDepth 65536 in
theorem w_alone : about1.alone = true := by decide +kernel
set_option maxRecDepth 65536 in
theorem w_named : about1.methodNamed? x = some theMethod := by decide +kernel
set_option maxRecDepth 65536 in
theorem w_hears : about1.hears theMethod below0 = true := by decide +kernel
set_option maxRecDepth 65536 in
theorem w_ripe : about1.ripe theMethod args0 below0 = true := by decide +kernel
theorem w_running : about1.status = .running := rfl
set_option maxRecDepth 65536 in
theorem w_room : about1.hasRoom e0.platform room_1 = true :=
  launch0.hasRoom_least _ room_1 (by decide +kernel) (by decide +kernel) (by decide +kernel) (by decide +kernel) (by decide +kernel) (by decide +kernel)
theorem allAtoms_all (ts : List Jvm.Cond) (a : Array Jvm.Value) (st : Jvm.State) : (allAtoms ts).before a st = ts.all (fun c => c.before a st) := by
  induction ts with
  | nil => rfl
  | cons c t ih =>
    show (Jvm.Cond.and c (allAtoms t)).before a st = _
    rw [Jvm.Cond.before_and, ih, List.all_cons]
def words1 : List Jvm.Cond := Jvm.Cond.code x code maxLocals ret :: tables_1
/-- a 'code' word, met by the world's own term for the bytes: nothing is compared byte by byte -/
theorem code_word {y : MethodName} {bytes : ByteArray} {mx : Nat} {rt : Option FieldType} {a : Array Value} {s : State} {m : MethodId} {meth : Method} {c : Code} (h1 : s.methodNamed? y = some m) (h2 : s.vm.method? m = some meth) (h3 : meth.code = some c) (h4 : c.code = bytes)
    (h5 : (c.maxLocals == mx && c.exceptionTable.isEmpty && decide (c.maxStack ≤ mostOperands) && decide (meth.sig.returnType = rt) && !meth.locks && decide (parseMethodDescriptor y.desc = some meth.sig)) = true) : (Jvm.Cond.code y bytes mx rt).before a s = true := by
  simp only [Bool.and_eq_true, beq_iff_eq, Bool.not_eq_true', decide_eq_true_eq] at h5
  obtain ⟨⟨⟨⟨⟨g1, g2⟩, g3⟩, g4⟩, g5⟩, g6⟩ := h5
  simp [Cond.before, Cond.holds, Cond.value, h1, h2, h3, h4, g1, g2, g3, g4, g5, g6]
def isCode : Jvm.Cond → Bool
  | .code _ _ _ _ => true
  | _ => false
theorem all_split {L : List Jvm.Cond} {P : Jvm.Cond → Bool} (h1 : L.all (fun c => isCode c || P c) = true) (h2 : ∀ c ∈ L.filter isCode, P c = true) : L.all P = true := by
  refine List.all_eq_true.mpr fun c hc => ?_
  have h := List.all_eq_true.mp h1 c hc
  rcases Bool.eq_false_or_eq_true (isCode c) with hi | hi
  · exact h2 c (List.mem_filter.mpr ⟨hc, hi⟩)
  · simpa [hi] using h
set_option maxRecDepth 65536 in
theorem w_c0 : (Jvm.Cond.code x code maxLocals ret).before args0 about1 = true := code_word (m := ⟨1, 1⟩) (meth := k1m1) (c := k1c1) (by decide +kernel) rfl rfl rfl (by decide +kernel)
set_option maxRecDepth 65536 in
theorem w_c1 : (Jvm.Cond.code ({ cls := "com/example/interleave/interleave/Tally", name := "<init>", desc := "()V" } : Jvm.MethodName) prog_84_method_1_code (1 : Nat) (Option.none : Option Jvm.ClassFile.FieldType)).before args0 about1 = true := code_word (m := ⟨2, 0⟩) (meth := k2m0) (c := k2c0) (by decide +kernel) rfl rfl rfl (by decide +kernel)
set_option maxRecDepth 65536 in
theorem w_c2 : (Jvm.Cond.code ({ cls := "java/lang/Object", name := "<init>", desc := "()V" } : Jvm.MethodName) object_method_1_code (1 : Nat) (Option.none : Option Jvm.ClassFile.FieldType)).before args0 about1 = true := code_word (m := ⟨0, 0⟩) (meth := k0m0) (c := k0c0) (by decide +kernel) rfl rfl rfl (by decide +kernel)
set_option maxRecDepth 65536 in
theorem w_c3 : (Jvm.Cond.code ({ cls := "java/util/HashMap", name := "<init>", desc := "()V" } : Jvm.MethodName) jdk_69_method_7_code (1 : Nat) (Option.none : Option Jvm.ClassFile.FieldType)).before args0 about1 = true := code_word (m := ⟨7, 0⟩) (meth := k7m0) (c := k7c0) (by decide +kernel) rfl rfl rfl (by decide +kernel)
set_option maxRecDepth 65536 in
theorem w_c4 : (Jvm.Cond.code ({ cls := "java/util/AbstractMap", name := "<init>", desc := "()V" } : Jvm.MethodName) jdk_71_method_1_code (1 : Nat) (Option.none : Option Jvm.ClassFile.FieldType)).before args0 about1 = true := code_word (m := ⟨4, 0⟩) (meth := k4m0) (c := k4c0) (by decide +kernel) rfl rfl rfl (by decide +kernel)
set_option maxRecDepth 65536 in
theorem w_c5 : (Jvm.Cond.code ({ cls := "com/example/interleave/interleave/Tally", name := "commit", desc := "(J)V" } : Jvm.MethodName) prog_84_method_3_code (3 : Nat) (Option.none : Option Jvm.ClassFile.FieldType)).before args0 about1 = true := code_word (m := ⟨2, 1⟩) (meth := k2m1) (c := k2c1) (by decide +kernel) rfl rfl rfl (by decide +kernel)
set_option maxRecDepth 65536 in
theorem w_c6 : (Jvm.Cond.code ({ cls := "java/lang/Math", name := "max", desc := "(JJ)J" } : Jvm.MethodName) jdk_29_method_66_code (4 : Nat) (Option.some Jvm.ClassFile.FieldType.long)).before args0 about1 = true := code_word (m := ⟨8, 1⟩) (meth := k8m1) (c := k8c1) (by decide +kernel) rfl rfl rfl (by decide +kernel)
set_option maxRecDepth 65536 in
theorem w_c7 : (Jvm.Cond.code ({ cls := "com/example/interleave/interleave/Tally", name := "committed", desc := "()J" } : Jvm.MethodName) prog_84_method_9_code (1 : Nat) (Option.some Jvm.ClassFile.FieldType.long)).before args0 about1 = true := code_word (m := ⟨2, 3⟩) (meth := k2m3) (c := k2c3) (by decide +kernel) rfl rfl rfl (by decide +kernel)
set_option maxRecDepth 65536 in
theorem w_c8 : (Jvm.Cond.code ({ cls := "com/example/interleave/interleave/Tally", name := "averageNanos", desc := "()J" } : Jvm.MethodName) prog_84_method_13_code (1 : Nat) (Option.some Jvm.ClassFile.FieldType.long)).before args0 about1 = true := code_word (m := ⟨2, 6⟩) (meth := k2m6) (c := k2c6) (by decide +kernel) rfl rfl rfl (by decide +kernel)
set_option maxRecDepth 65536 in
theorem w_c9 : (Jvm.Cond.code ({ cls := "com/example/interleave/interleave/Tally", name := "longestNanos", desc := "()J" } : Jvm.MethodName) prog_84_method_14_code (1 : Nat) (Option.some Jvm.ClassFile.FieldType.long)).before args0 about1 = true := code_word (m := ⟨2, 7⟩) (meth := k2m7) (c := k2c7) (by decide +kernel) rfl rfl rfl (by decide +kernel)
set_option maxRecDepth 65536 in
theorem w_c10 : (Jvm.Cond.code ({ cls := "com/example/interleave/interleave/Tally", name := "started", desc := "()J" } : Jvm.MethodName) prog_84_method_8_code (1 : Nat) (Option.some Jvm.ClassFile.FieldType.long)).before args0 about1 = true := code_word (m := ⟨2, 2⟩) (meth := k2m2) (c := k2c2) (by decide +kernel) rfl rfl rfl (by decide +kernel)
set_option maxRecDepth 65536 in
theorem w_c11 : (Jvm.Cond.code ({ cls := "com/example/interleave/interleave/Tally", name := "failed", desc := "()J" } : Jvm.MethodName) prog_84_method_10_code (1 : Nat) (Option.some Jvm.ClassFile.FieldType.long)).before args0 about1 = true := code_word (m := ⟨2, 4⟩) (meth := k2m4) (c := k2c4) (by decide +kernel) rfl rfl rfl (by decide +kernel)
set_option maxRecDepth 65536 in
theorem w_c12 : (Jvm.Cond.code ({ cls := "com/example/interleave/interleave/Tally", name := "retried", desc := "()J" } : Jvm.MethodName) prog_84_method_11_code (1 : Nat) (Option.some Jvm.ClassFile.FieldType.long)).before args0 about1 = true := code_word (m := ⟨2, 5⟩) (meth := k2m5) (c := k2c5) (by decide +kernel) rfl rfl rfl (by decide +kernel)
def codes1 : List Jvm.Cond := [Jvm.Cond.code x code maxLocals ret, Jvm.Cond.code ({ cls := "com/example/interleave/interleave/Tally", name := "<init>", desc := "()V" } : Jvm.MethodName) prog_84_method_1_code (1 : Nat) (Option.none : Option Jvm.ClassFile.FieldType), Jvm.Cond.code ({ cls := "java/lang/Object", name := "<init>", desc := "()V" } : Jvm.MethodName) object_method_1_code (1 : Nat) (Option.none : Option Jvm.ClassFile.FieldType), Jvm.Cond.code ({ cls := "java/util/HashMap", name := "<init>", desc := "()V" } : Jvm.MethodName) jdk_69_method_7_code (1 : Nat) (Option.none : Option Jvm.ClassFile.FieldType), Jvm.Cond.code ({ cls := "java/util/AbstractMap", name := "<init>", desc := "()V" } : Jvm.MethodName) jdk_71_method_1_code (1 : Nat) (Option.none : Option Jvm.ClassFile.FieldType), Jvm.Cond.code ({ cls := "com/example/interleave/interleave/Tally", name := "commit", desc := "(J)V" } : Jvm.MethodName) prog_84_method_3_code (3 : Nat) (Option.none : Option Jvm.ClassFile.FieldType), Jvm.Cond.code ({ cls := "java/lang/Math", name := "max", desc := "(JJ)J" } : Jvm.MethodName) jdk_29_method_66_code (4 : Nat) (Option.some Jvm.ClassFile.FieldType.long), Jvm.Cond.code ({ cls := "com/example/interleave/interleave/Tally", name := "committed", desc := "()J" } : Jvm.MethodName) prog_84_method_9_code (1 : Nat) (Option.some Jvm.ClassFile.FieldType.long), Jvm.Cond.code ({ cls := "com/example/interleave/interleave/Tally", name := "averageNanos", desc := "()J" } : Jvm.MethodName) prog_84_method_13_code (1 : Nat) (Option.some Jvm.ClassFile.FieldType.long), Jvm.Cond.code ({ cls := "com/example/interleave/interleave/Tally", name := "longestNanos", desc := "()J" } : Jvm.MethodName) prog_84_method_14_code (1 : Nat) (Option.some Jvm.ClassFile.FieldType.long), Jvm.Cond.code ({ cls := "com/example/interleave/interleave/Tally", name := "started", desc := "()J" } : Jvm.MethodName) prog_84_method_8_code (1 : Nat) (Option.some Jvm.ClassFile.FieldType.long), Jvm.Cond.code ({ cls := "com/example/interleave/interleave/Tally", name := "failed", desc := "()J" } : Jvm.MethodName) prog_84_method_10_code (1 : Nat) (Option.some Jvm.ClassFile.FieldType.long), Jvm.Cond.code ({ cls := "com/example/interleave/interleave/Tally", name := "retried", desc := "()J" } : Jvm.MethodName) prog_84_method_11_code (1 : Nat) (Option.some Jvm.ClassFile.FieldType.long)]
set_option maxRecDepth 65536 in
theorem codes_eq : words1.filter isCode = codes1 := rfl
theorem w_codes : ∀ c ∈ words1.filter isCode, c.before args0 about1 = true := by
  rw [codes_eq]
  intro c hc
  simp only [codes1, List.mem_cons, List.not_mem_nil, or_false] at hc
  rcases hc with rfl | rfl | rfl | rfl | rfl | rfl | rfl | rfl | rfl | rfl | rfl | rfl | rfl
  · exact w_c0
  · exact w_c1
  · exact w_c2
  · exact w_c3
  · exact w_c4
  · exact w_c5
  · exact w_c6
  · exact w_c7
  · exact w_c8
  · exact w_c9
  · exact w_c10
  · exact w_c11
  · exact w_c12
set_option maxRecDepth 65536 in
theorem w_t1 : (words1.take 24).all (fun c => isCode c || c.before args0 about1) = true := by decide +kernel
set_option maxRecDepth 65536 in
theorem w_t2 : ((words1.drop 24).take 24).all (fun c => isCode c || c.before args0 about1) = true := by decide +kernel
set_option maxRecDepth 65536 in
theorem w_t3 : (((words1.drop 24).drop 24).take 24).all (fun c => isCode c || c.before args0 about1) = true := by decide +kernel
set_option maxRecDepth 65536 in
theorem w_t4 : (((words1.drop 24).drop 24).drop 24).all (fun c => isCode c || c.before args0 about1) = true := by decide +kernel
theorem w_tables : (allAtoms (Jvm.Cond.code x code maxLocals ret :: tables_1)).before args0 about1 = true := by
  rw [allAtoms_all]
  show words1.all (fun c => c.before args0 about1) = true
  refine all_split ?_ w_codes
  rw [← List.take_append_drop 24 words1, List.all_append, w_t1, ← List.take_append_drop 24 (words1.drop 24), List.all_append, w_t2, ← List.take_append_drop 24 ((words1.drop 24).drop 24), List.all_append, w_t3, w_t4]
  rfl
set_option maxRecDepth 65536 in
theorem w_case : (Jvm.Cond.and given_1 narrow_1).before args0 about1 = true := by decide +kernel
theorem w_applies : (headSpec (Jvm.Cond.code x code maxLocals ret :: tables_1) room_1).applies x e0.platform about1 = true :=
  (Spec.applies_iff w_frames).mpr ⟨w_running, w_runnable, w_alone, w_named, w_hears, w_ripe, w_room, w_tables⟩
theorem atStart : AtStart classFile x code maxLocals ret World_1 tables_1 room_1 Calls_1 rest_1 Pre_1 launch0 p0 e0 about1 theMethod args0 below0 :=
  ⟨lists_1, trivial, launch0.admits_env _ _ _, launch0.least_env, fairChoices_fair.cas, fairChoices_fair.clock, w_frames, w_args, w_heap, w_applies, trivial, trivial, w_case⟩
end start1
theorem witness_1 : WitnessClaimed_1 := ⟨start1.p0, start1.e0, start1.about1, start1.theMethod, start1.args0, start1.below0, start1.atStart⟩
end Jvm.Pilot.@@N@@
