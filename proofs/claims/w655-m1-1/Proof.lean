import JvmDerived
import JvmDerived.Pilot.@@N@@Statement
import JvmDerived.Pilot.@@N@@Code
set_option linter.unusedVariables false
set_option linter.unusedSimpArgs false
namespace Jvm.Pilot.@@N@@
open Jvm Jvm.ClassFile Sem Op Lib Jvm.Free Jvm.Stand Jvm.LawKit Jvm.RoadKit Bundle Jvm.Pilot.@@N@@.Jvm.D
section Own
variable {p : Program} {l : Launch} {e : Env} {R : Room} {s : State} {m : MethodId} {args : Array Value} {below : List Frame} {meth : Method} {c : Code} {T T' : State} {locs : List Loc} {cells slots : Nat} {G : Outcome → State → Prop} {g g' : JFrame} {Z : State} {h h' h0 : Heap} {a b : Addr} {n0 : Nat} {Q : Option Value → Heap → List Loc → Prop} {CC SS : Nat}
/-- the run from T, with the frame g on top, ends as G wants it -/
def Win (p : Program) (e : Env) (below : List Frame) (G : Outcome → State → Prop) (T : State) (g : JFrame) : Prop :=
  ∃ s₂ o, Steps p.tables e below (T.setTop g) s₂ ∧ s₂.status = .running ∧ Ended s₂ below o ∧ G o s₂
theorem Win.st (W : Win p e below G T' g') (st : ∀ t, Steps p.tables e below (T'.setTop g') t → Steps p.tables e below (T.setTop g) t) : Win p e below G T g := by
  obtain ⟨s2, o, h1, h2⟩ := W
  exact ⟨s2, o, st _ h1, h2⟩
theorem Win.tr (W : Win p e below G T' g') (st : Steps p.tables e below (T.setTop g) (T'.setTop g')) : Win p e below G T g := by
  obtain ⟨s2, o, h1, h2⟩ := W
  exact ⟨s2, o, st.trans h1, h2⟩
/-- how a body ends: it returned v, Q of the value and the heap, the frame -/
def Ends (s : State) (Q : Option Value → Heap → List Loc → Prop) (CC SS : Nat) (o : Outcome) (U : State) : Prop := ∃ v L, o = .returned v ∧ Q v U.heap L ∧ FrameEnd s o U L CC SS
theorem Win.ret (X : Stand p l e R s m args below meth c T locs cells slots) (hx : p.tables.exec = Jvm.exec) (hlk : meth.locks = false) (eT : T.heap = h) {pc : Nat} {Ls : Array Slot} {w : Value} {t : FieldType} {i : Instr} {rest : List Value} (hret : meth.sig.returnType = some t) (hn : narrow t w = w)
    (hi : (i = .ireturn ∧ (t = .int ∨ t = .boolean ∨ t = .byte ∨ t = .char ∨ t = .short) ∧ ∃ z, w = .int z) ∨ (i = .lreturn ∧ t = .long ∧ ∃ z, w = .long z) ∨ (i = .dreturn ∧ t = .double ∧ ∃ z, w = .double z) ∨ (i = .freturn ∧ t = .float ∧ ∃ z, w = .float z) ∨ (i = .areturn ∧ t.isReference = true ∧ w.isRef = true))
    (hd : decode c.code pc = .ok (i, 1)) (hc : cells ≤ CC) (hs : slots ≤ SS) (hQ : Q (some w) h locs) : Win p e below (Ends s Q CC SS) T (mkF m pc Ls (w :: rest)) := by
  obtain ⟨fs, hr, hrun, hended, hW, hsame⟩ := X.leave (v := some w) (fun h => by rw [hret] at h; cases h) hlk
  subst eT
  exact ⟨_, _, retOut X hx hret hn hi hd hr, hrun, hended, _, _, rfl, hQ, ⟨_, rfl⟩, hW, hsame.mono hc hs⟩
theorem Win.retN (X : Stand p l e R s m args below meth c T locs cells slots) (hx : p.tables.exec = Jvm.exec) (hlk : meth.locks = false) (eT : T.heap = h) {pc : Nat} {Ls : Array Slot} {z z' : Int32} {t : FieldType} {rest : List Value} (hret : meth.sig.returnType = some t) (ht : t = .boolean ∨ t = .byte ∨ t = .char ∨ t = .short)
    (hd : decode c.code pc = .ok (.ireturn, 1)) (hc : cells ≤ CC) (hs : slots ≤ SS) (hz : nar t z = z') (hQ : Q (some (.int z')) h locs) : Win p e below (Ends s Q CC SS) T (mkF m pc Ls (.int z :: rest)) := by
  subst hz
  obtain ⟨fs, hr, hrun, hended, hW, hsame⟩ := X.leave (v := some (.int (nar t z))) (fun h => by rw [hret] at h; cases h) hlk
  subst eT
  exact ⟨_, _, Jvm.RoadKit.retN X hx hret ht hd hr, hrun, hended, _, _, rfl, hQ, ⟨_, rfl⟩, hW, hsame.mono hc hs⟩
theorem Win.retV (X : Stand p l e R s m args below meth c T locs cells slots) (hx : p.tables.exec = Jvm.exec) (hlk : meth.locks = false) (eT : T.heap = h) {pc : Nat} {Ls : Array Slot} (hret : meth.sig.returnType = none)
    (hd : decode c.code pc = .ok (.return_, 1)) (hc : cells ≤ CC) (hs : slots ≤ SS) (hQ : Q none h locs) : Win p e below (Ends s Q CC SS) T (mkF m pc Ls []) := by
  obtain ⟨fs, hr, hrun, hended, hW, hsame⟩ := X.leave (v := none) (fun _ => rfl) hlk
  subst eT
  exact ⟨_, _, X.returnOut hx hret hd hr, hrun, hended, _, _, rfl, hQ, ⟨_, rfl⟩, hW, hsame.mono hc hs⟩
theorem own_hide {k : Nat} {sl : Nat} (X : Stand p l e R s m args below meth c T (locs ++ [⟨a, sl⟩]) cells slots) (N : Fr k locs) (q : k ≤ a) : ∃ L, Stand p l e R s m args below meth c T L cells slots ∧ Fr k L := ⟨_, X, Fr.snoc X N q⟩
theorem own_kext (E : Ext h h') : Keep h h' [] := (Keep.refl h []).ext E
theorem own_new {x : Addr} (g : b = h.size) (q : x < h.size) : x ≠ b := Nat.ne_of_lt (g ▸ q)
theorem own_newle (Z0 : n0 ≤ h.size) (g : b = h.size) : n0 ≤ b := g ▸ Z0
theorem own_len {k : ClassId} {ty : FieldType} {z : Int32} {vs : List Value} {dv : Value} (V : Arv Z h a k ty z vs dv) : ¬ z < 0 := by obtain ⟨_, _, _, _, q, _⟩ := V; exact q
theorem own_alen {k : ClassId} {ty : FieldType} {z : Int32} {vs : List Value} {dv : Value} (X : Stand p l e R s m args below meth c T locs cells slots) (hx : p.tables.exec = Jvm.exec) (hZ : Z.Warmed39 s.vm) (eT : T.heap = h) (V : Arv Z h a k ty z vs dv) {rest : List Value} (hg : g.method = m) (hs : g.stack = .ref a :: rest) (hd : decode c.code g.pc = .ok (.arraylength, 1)) :
    ∀ target, Steps p.tables e below (T.setTop { g with pc := g.pc + 1, stack := .int z :: rest }) target → Steps p.tables e below (T.setTop g) target := by
  obtain ⟨cl, A, -, S, q, -, -⟩ := V
  intro t k
  refine X.arraylength hx (by rw [eT]; exact A.1) (State.isArrayOf_alike hZ.alike A.2.1) hg hs hd _ ?_
  rw [len_of S q]; exact k
theorem own_iald {k : ClassId} {z : Int32} {vs : List Value} {dv : Value} (X : Stand p l e R s m args below meth c T locs cells slots) (hx : p.tables.exec = Jvm.exec) (hZ : Z.Warmed39 s.vm) (eT : T.heap = h) (V : Arv Z h a k .int z vs dv) {j : Int32} {v : Value} (h1 : ¬ j < 0) (h2 : j < z) (hv : vs.getD j.toNatClampNeg dv = v) {rest : List Value} (hg : g.method = m) (hs : g.stack = .int j :: .ref a :: rest) (hd : decode c.code g.pc = .ok (.iaload, 1)) :
    ∀ target, Steps p.tables e below (T.setTop { g with pc := g.pc + 1, stack := v :: rest }) target → Steps p.tables e below (T.setTop g) target := by
  obtain ⟨cl, A, -, S, q, H, -⟩ := V
  have hin := inb_of S ⟨h1, h2⟩
  exact X.iaload hx (by rw [eT]; exact A.1) (State.isArrayOf_alike hZ.alike A.2.1) A.2.2 hin (H.at hin hv) hg hs hd
theorem own_bald {k : ClassId} {z : Int32} {vs : List Value} {dv : Value} (X : Stand p l e R s m args below meth c T locs cells slots) (hx : p.tables.exec = Jvm.exec) (hZ : Z.Warmed39 s.vm) (eT : T.heap = h) (V : Arv Z h a k .byte z vs dv) {j : Int32} {v : Value} (h1 : ¬ j < 0) (h2 : j < z) (hv : vs.getD j.toNatClampNeg dv = v) {rest : List Value} (hg : g.method = m) (hs : g.stack = .int j :: .ref a :: rest) (hd : decode c.code g.pc = .ok (.baload, 1)) :
    ∀ target, Steps p.tables e below (T.setTop { g with pc := g.pc + 1, stack := v :: rest }) target → Steps p.tables e below (T.setTop g) target := by
  obtain ⟨cl, A, -, S, q, H, -⟩ := V
  have hin := inb_of S ⟨h1, h2⟩
  exact X.baloadBytes hx (by rw [eT]; exact A.1) (State.isArrayOf_alike hZ.alike A.2.1) A.2.2 hin (H.at hin hv) hg hs hd
theorem own_cald {k : ClassId} {z : Int32} {vs : List Value} {dv : Value} (X : Stand p l e R s m args below meth c T locs cells slots) (hx : p.tables.exec = Jvm.exec) (hZ : Z.Warmed39 s.vm) (eT : T.heap = h) (V : Arv Z h a k .char z vs dv) {j : Int32} {v : Value} (h1 : ¬ j < 0) (h2 : j < z) (hv : vs.getD j.toNatClampNeg dv = v) {rest : List Value} (hg : g.method = m) (hs : g.stack = .int j :: .ref a :: rest) (hd : decode c.code g.pc = .ok (.caload, 1)) :
    ∀ target, Steps p.tables e below (T.setTop { g with pc := g.pc + 1, stack := v :: rest }) target → Steps p.tables e below (T.setTop g) target := by
  obtain ⟨cl, A, -, S, q, H, -⟩ := V
  have hin := inb_of S ⟨h1, h2⟩
  exact X.caload hx (by rw [eT]; exact A.1) (State.isArrayOf_alike hZ.alike A.2.1) A.2.2 hin (H.at hin hv) hg hs hd
theorem own_cast {k : ClassId} {z : Int32} {vs : List Value} {dv : Value} (X : Stand p l e R s m args below meth c T locs cells slots) (hx : p.tables.exec = Jvm.exec) (hZ : Z.Warmed39 s.vm) (eT : T.heap = h) (N : Fr n0 locs) (ge : n0 ≤ a) (V : Arv Z h a k .char z vs dv) {j x : Int32} (h1 : ¬ j < 0) (h2 : j < z) {i : Nat} (hj : j.toNatClampNeg = i) (hi : i < vs.length) {rest : List Value} (hg : g.method = m) (hs : g.stack = .int x :: .int j :: .ref a :: rest) (hd : decode c.code g.pc = .ok (.castore, 1)) :
    ∃ T' h' L, Stand p l e R s m args below meth c T' L cells slots ∧ Fr n0 L ∧ T'.heap = h' ∧ Keep h h' [a] ∧ Arv Z h' a k .char z (vs.set i (.int (x.toUInt32.toUInt16.toUInt32.toInt32))) dv ∧ ∀ target, Steps p.tables e below (T'.setTop { g with pc := g.pc + 1, stack := rest }) target → Steps p.tables e below (T.setTop g) target := by
  obtain ⟨cl, A, q1, S, q, H, Gf⟩ := V
  have hin := inb_of S ⟨h1, h2⟩
  obtain ⟨T', h', X', e', W, st⟩ := stC X hx hZ eT A hin hg hs hd
  exact ⟨T', h', _, X', Fr.snoc X' N ge, e', Keep.of_wr W, Arv.set A q1 S q H Gf (fits_nar_char x) W i hj hi, st⟩
theorem own_iast {k : ClassId} {z : Int32} {vs : List Value} {dv : Value} (X : Stand p l e R s m args below meth c T locs cells slots) (hx : p.tables.exec = Jvm.exec) (hZ : Z.Warmed39 s.vm) (eT : T.heap = h) (N : Fr n0 locs) (ge : n0 ≤ a) (V : Arv Z h a k .int z vs dv) {j x : Int32} (h1 : ¬ j < 0) (h2 : j < z) {i : Nat} (hj : j.toNatClampNeg = i) (hi : i < vs.length) {rest : List Value} (hg : g.method = m) (hs : g.stack = .int x :: .int j :: .ref a :: rest) (hd : decode c.code g.pc = .ok (.iastore, 1)) :
    ∃ T' h' L, Stand p l e R s m args below meth c T' L cells slots ∧ Fr n0 L ∧ T'.heap = h' ∧ Keep h h' [a] ∧ Arv Z h' a k .int z (vs.set i (.int x)) dv ∧ ∀ target, Steps p.tables e below (T'.setTop { g with pc := g.pc + 1, stack := rest }) target → Steps p.tables e below (T.setTop g) target := by
  obtain ⟨cl, A, q1, S, q, H, Gf⟩ := V
  have hin := inb_of S ⟨h1, h2⟩
  obtain ⟨T', h', X', e', W, st⟩ := stI X hx hZ eT A hin hg hs hd
  exact ⟨T', h', _, X', Fr.snoc X' N ge, e', Keep.of_wr W, Arv.set A q1 S q H Gf rfl W i hj hi, st⟩
theorem own_bast {k : ClassId} {z : Int32} {vs : List Value} {dv : Value} (X : Stand p l e R s m args below meth c T locs cells slots) (hx : p.tables.exec = Jvm.exec) (hZ : Z.Warmed39 s.vm) (eT : T.heap = h) (N : Fr n0 locs) (ge : n0 ≤ a) (V : Arv Z h a k .byte z vs dv) {j x : Int32} (h1 : ¬ j < 0) (h2 : j < z) {i : Nat} (hj : j.toNatClampNeg = i) (hi : i < vs.length) {rest : List Value} (hg : g.method = m) (hs : g.stack = .int x :: .int j :: .ref a :: rest) (hd : decode c.code g.pc = .ok (.bastore, 1)) :
    ∃ T' h' L, Stand p l e R s m args below meth c T' L cells slots ∧ Fr n0 L ∧ T'.heap = h' ∧ Keep h h' [a] ∧ Arv Z h' a k .byte z (vs.set i (.int x.toInt8.toInt32)) dv ∧ ∀ target, Steps p.tables e below (T'.setTop { g with pc := g.pc + 1, stack := rest }) target → Steps p.tables e below (T.setTop g) target := by
  obtain ⟨cl, A, q1, S, q, H, Gf⟩ := V
  have hin := inb_of S ⟨h1, h2⟩
  obtain ⟨T', h', X', e', W, st⟩ := stB X hx hZ eT A hin hg hs hd
  exact ⟨T', h', _, X', Fr.snoc X' N ge, e', Keep.of_wr W, Arv.set A q1 S q H Gf (fits_nar_byte x) W i hj hi, st⟩
/-- how a body ends that may have interned a String -/
def EndsW (s : State) (Q : Option Value → Heap → List Loc → Prop) (CC SS : Nat) (o : Outcome) (U : State) : Prop := ∃ v L, o = .returned v ∧ Q v U.heap L ∧ ReturnedEndW s o U L CC SS
theorem Win.retNW {vm₁ : Vm} {k1 : Nat} (X : Stand p l e R (s.setVm vm₁) m args below meth c T locs cells slots) (hS : s.Since vm₁ k1) (hk : k1 ≤ h.size) (hx : p.tables.exec = Jvm.exec) (hlk : meth.locks = false) (eT : T.heap = h) {pc : Nat} {Ls : Array Slot} {z z' : Int32} {t : FieldType} {rest : List Value} (hret : meth.sig.returnType = some t) (ht : t = .boolean ∨ t = .byte ∨ t = .char ∨ t = .short)
    (hd : decode c.code pc = .ok (.ireturn, 1)) (hc : cells ≤ CC) (hs : slots ≤ SS) (hz : nar t z = z') (hQ : Q (some (.int z')) h locs) : Win p e below (EndsW s Q CC SS) T (mkF m pc Ls (.int z :: rest)) := by
  subst hz
  subst eT
  obtain ⟨fs, hr, hrun, hended, h1, h2, h3, h4⟩ := X.leaveW hS hk (v := some (.int (nar t z))) (fun h => by rw [hret] at h; cases h) hlk
  exact ⟨_, _, Jvm.RoadKit.retN X hx hret ht hd hr, hrun, hended, _, _, rfl, hQ, h1, h2, h3, h4.mono hc hs⟩
theorem Win.retVW {vm₁ : Vm} {k1 : Nat} (X : Stand p l e R (s.setVm vm₁) m args below meth c T locs cells slots) (hS : s.Since vm₁ k1) (hk : k1 ≤ h.size) (hx : p.tables.exec = Jvm.exec) (hlk : meth.locks = false) (eT : T.heap = h) {pc : Nat} {Ls : Array Slot} (hret : meth.sig.returnType = none)
    (hd : decode c.code pc = .ok (.return_, 1)) (hc : cells ≤ CC) (hs : slots ≤ SS) (hQ : Q none h locs) : Win p e below (EndsW s Q CC SS) T (mkF m pc Ls []) := by
  subst eT
  obtain ⟨fs, hr, hrun, hended, h1, h2, h3, h4⟩ := X.leaveW hS hk (v := none) (fun _ => rfl) hlk
  exact ⟨_, _, X.returnOut hx hret hd hr, hrun, hended, _, _, rfl, hQ, h1, h2, h3, h4.mono hc hs⟩
theorem Win.retRW {vm₁ : Vm} {k1 : Nat} (X : Stand p l e R (s.setVm vm₁) m args below meth c T locs cells slots) (hS : s.Since vm₁ k1) (hk : k1 ≤ h.size) (hx : p.tables.exec = Jvm.exec) (hlk : meth.locks = false) (eT : T.heap = h) {pc : Nat} {Ls : Array Slot} {w : Value} {t : FieldType} {rest : List Value} (hret : meth.sig.returnType = some t) (ht : t.isReference = true) (hw : w.isRef = true) (hn : narrow t w = w)
    (hd : decode c.code pc = .ok (.areturn, 1)) (hc : cells ≤ CC) (hs : slots ≤ SS) (hQ : Q (some w) h locs) : Win p e below (EndsW s Q CC SS) T (mkF m pc Ls (w :: rest)) := by
  subst eT
  obtain ⟨fs, hr, hrun, hended, h1, h2, h3, h4⟩ := X.leaveW hS hk (v := some w) (fun h => by rw [hret] at h; cases h) hlk
  exact ⟨_, _, retOut X hx hret hn (Or.inr (Or.inr (Or.inr (Or.inr ⟨rfl, ht, hw⟩)))) hd hr, hrun, hended, _, _, rfl, hQ, h1, h2, h3, h4.mono hc hs⟩
/-- RoadKit's backOfSH for a callee that asks the invariant and doesn't give it back -/
theorem own_backOfSP {a0 : Array Value} {EL : List (String × Nat)} {vm0 : Vm} {y : MethodName} {bytes : ByteArray} {maxL : Nat} {ret : Option FieldType} {rm : Room} {len W : Nat} {as' : Array Value} {Q : Option Value → Heap → List Loc → Prop}
    (hM : MetFree l y (head1 [Jvm.Cond.code y bytes maxL ret] rm) (fun a U => a = as' ∧ Z.Warmed39 U.vm ∧ U.heap = h ∧ CHv Z EL U.vm h) (fun _ _ _ _ _ => True) (fun _ U o U' => ∃ v L, o = .returned v ∧ Q v U'.heap L ∧ ReturnedEndW U o U' L rm.cells rm.slots))
    (hZ : Z.Warmed39 vm0) (wc : (Jvm.Cond.code y bytes maxL ret).before a0 Z = true) (wz : (Jvm.Cond.initialized y.cls).before a0 Z = true) (hf : rm.frames + 1 ≤ R.frames) (hl : W + (maxL + 11) + rm.locals ≤ R.locals) (hEL : EW Z a0 EL) (H : CHv Z EL vm0 h) :
    BackS l R p e below (s.setVm vm0) args y len W (fun A a => a = as' ∧ A.U.heap = h ∧ A.cells + rm.cells ≤ R.cells ∧ A.slots + rm.slots ≤ R.slots)
      (fun A _ v B => ∃ L, Q v B.U.heap L ∧ B.locs = A.locs ++ L ∧ B.cells = A.cells + rm.cells ∧ B.slots = A.slots + rm.slots) :=
  BackS.of_freeW (bytes := bytes) (maxL := maxL) (ret := ret) (E := fun _ _ o t L k n => k = rm.cells ∧ n = rm.slots ∧ ∃ v, o = .returned v ∧ Q v t.heap L) hM hf hl
    (fun m meth c A a Y hp => have hU : Z.Warmed39 A.U.vm := wtrans (s := s.setVm vm0) hZ Y.warmed
      ⟨by show (Jvm.Cond.and _ .tt).before a A.U = true; rw [Cond.before_and, mv hU wc]; rfl, mv hU wc, mv hU wz, hp.2.2.1, hp.2.2.2⟩)
    (fun m meth c A a g mk Y hp => ⟨hp.1, wtrans (s := s.setVm vm0) hZ Y.warmed, hp.2.1, (CHv.at Y hZ hEL H).1⟩) (fun _ _ _ _ _ _ _ _ _ => trivial)
    (fun _ _ _ _ ⟨v, L, h1, h2, h3⟩ => ⟨L, _, _, h3, rfl, rfl, v, h1, h2⟩)
    (fun m meth c A a g mk v t L k n Y hp _ _ ⟨e1, e2, v', e3, e4⟩ => by cases e3; subst e1 e2; exact ⟨L, e4, rfl, rfl, rfl⟩)
theorem own_sta_keep {C n d : String} {v : Value} (F : Sta Z h C n d v) (K : Keep h h' []) : Sta Z h' C n d v := by
  obtain ⟨cf, i, k, f, st, cell, h1, h2, h3, h4, h5, r⟩ := F
  exact ⟨cf, i, k, f, st, cell, h1, h2, h3, h4, K.2.1 _ _ h5 nin0, r⟩
theorem own_nar_ref {u : Value} {C : String} (hu : u.isRef = true) : narrow (.object C) u = u := by rcases ref_cases hu with rfl | ⟨z, rfl⟩ <;> rfl
theorem own_fit_ref {u : Value} {C : String} (hu : u.isRef = true) : fits (.object C) u = true := by rcases ref_cases hu with rfl | ⟨z, rfl⟩ <;> rfl
theorem own_no {a0 : Array Value} {C K O : String} {n : Nat} (w : (Jvm.Cond.superclass C O).before a0 Z = true) (wo : (Jvm.Cond.noSuperclass O).before a0 Z = true) (wk : (Jvm.Cond.instantiable K n).before a0 Z = true) (h1 : C ≠ K) (h2 : O ≠ K) : ∃ c t, Z.vm.findClass C = some c ∧ Z.vm.findClass K = some t ∧ Z.vm.assignable c t = false := by
  obtain ⟨o, ko, o1, o2, o3, -, -⟩ := Cond.noSuperclass_spec wo
  obtain ⟨t, kt, t1, t2, t3, t4, -⟩ := Cond.instantiable_spec wk
  obtain ⟨c, c0⟩ := found_sup w
  obtain ⟨p, k, kp, p1, p2, p3, p4, p5, -, p7⟩ := Cond.superclass_spec c0 w
  cases o1.symm.trans p1
  have ne1 := ids_ne c0 t1 h1
  have ne2 := ids_ne o1 t1 h2
  simp only [Bool.or_eq_false_iff] at t4
  have n3 : ∀ fuel, Z.vm.isSubclassAux fuel c t = false := fun fuel => by
    match fuel with
    | 0 => rfl
    | 1 => simp [Vm.isSubclassAux, ne1, p2, p4]
    | f + 2 => simp [Vm.isSubclassAux, ne1, ne2, p2, p4, o2, o3]
  refine ⟨c, t, c0, t1, ?_⟩
  show Z.vm.assignableAux (255 + 1) c t = false
  simp [Vm.assignableAux, ne1, p2, t2, p5, t3, t4.1, Vm.isSubclass, n3]
theorem own_selp {y : MethodName} {n : Nat} (hi : (Jvm.Cond.instantiable y.cls n).before args s = true) (hp : s.PrivateAt y) (hm : (Jvm.Cond.instanceMethod y).before args s = true) (hy : y.cls ≠ "java/lang/invoke/MethodHandle" ∧ y.cls ≠ "java/lang/invoke/VarHandle") : (Jvm.Cond.selects y.cls y y).before args s = true := by
  obtain ⟨c, k, h1, h2, h3, h4, -⟩ := Cond.instantiable_spec hi
  exact selects_self_of_private h1 h2 (by simp only [Bool.or_eq_false_iff] at h4; exact h4.1) hp hm hy
end Own

theorem own_lt {x y : Int32} (h : x.toInt < y.toInt) : x < y := Int32.lt_iff_toInt_lt.mpr h
theorem own_nlt {x y : Int32} (h : y.toInt ≤ x.toInt) : ¬ x < y := fun q => by have := Int32.lt_iff_toInt_lt.mp q; omega
theorem own_of_lt {x y : Int32} (h : x < y) : x.toInt < y.toInt := Int32.lt_iff_toInt_lt.mp h
theorem own_of_nlt {x y : Int32} (h : ¬ x < y) : y.toInt ≤ x.toInt := by rw [Int32.lt_iff_toInt_lt] at h; omega
theorem own_i0 : (0 : Int32).toInt = 0 := by decide
theorem own_i1 : (1 : Int32).toInt = 1 := by decide
theorem own_i2 : (2 : Int32).toInt = 2 := by decide
theorem own_i8 : (8 : Int32).toInt = 8 := by decide
theorem own_inc {x : Int32} (h0 : -2147483648 ≤ x.toInt) (h : x.toInt < 2147483647) : (x + (1 : Int32)).toInt = x.toInt + 1 := by
  have q := c_iadd x 1
  have r := rng32 (x + 1)
  have := own_i1
  omega
theorem own_clamp {x : Int32} (h : 0 ≤ x.toInt) : (x.toNatClampNeg : Int) = x.toInt := (nat_of (own_nlt (by rw [own_i0]; exact h))).symm
theorem own_set_same {vs : List Value} {i : Nat} {v d : Value} (h : i < vs.length) : (vs.set i v).getD i d = v := by simp [List.getD, h]
theorem own_set_ne {vs : List Value} {i j : Nat} {v d : Value} (h : i ≠ j) : (vs.set i v).getD j d = vs.getD j d := by simp [List.getD, List.getElem?_set, h]
/-- the smaller of two ints, as Math.min picks it -/
def own_min (x y : Int32) : Int32 := if y < x then y else x
theorem own_min_toInt (x y : Int32) : (own_min x y).toInt = min x.toInt y.toInt := by
  unfold own_min
  split
  · rename_i h; rw [Int32.lt_iff_toInt_lt] at h; omega
  · rename_i h; rw [Int32.lt_iff_toInt_lt] at h; omega

theorem d_jdk_29_method_69_0 : decode jdk_29_method_69_code 0 = .ok (.iload_n 0, 1) := by decide +kernel
theorem d_jdk_29_method_69_1 : decode jdk_29_method_69_code 1 = .ok (.iload_n 1, 1) := by decide +kernel
theorem d_jdk_29_method_69_2 : decode jdk_29_method_69_code 2 = .ok (.if_icmp .gt 7, 3) := by decide +kernel
theorem d_jdk_29_method_69_9 : decode jdk_29_method_69_code 9 = .ok (.iload_n 1, 1) := by decide +kernel
theorem d_jdk_29_method_69_10 : decode jdk_29_method_69_code 10 = .ok (.ireturn, 1) := by decide +kernel
theorem d_jdk_29_method_69_5 : decode jdk_29_method_69_code 5 = .ok (.iload_n 0, 1) := by decide +kernel
theorem d_jdk_29_method_69_6 : decode jdk_29_method_69_code 6 = .ok (.goto 4, 3) := by decide +kernel
theorem ef_min (mt : MethodId) (x : Int32) (y : Int32) : entryFrame mt #[(.int x), (.int y)] 2 = mkF mt 0 #[.val (.int x), .val (.int y)] [] := by first | (simp [entryFrame, mkF, argsToLocals, Value.category]; done) | rfl
def Q_min (Z : State) (x : Int32) (y : Int32) (h0 : Heap) (n0 : Nat) (v : Option Value) (h : Heap) (L : List Loc) : Prop := v = some (.int (own_min x y)) ∧ Fr n0 L ∧ h = h0
set_option maxRecDepth 65536 in
set_option maxHeartbeats 40000000 in
theorem rm_min (l : Launch) (Z : State) (a0 : Array Value) (hw : ∀ d ∈ tables_1, d.before a0 Z = true) (ws : List Jvm.Cond) (x : Int32) (y : Int32) (h0 : Heap) (n0 : Nat) (Z0 : n0 ≤ h0.size) :
    MetFree l (⟨"java/lang/Math", "min", "(II)I"⟩ : MethodName) (head1 (Jvm.Cond.code (⟨"java/lang/Math", "min", "(II)I"⟩ : MethodName) jdk_29_method_69_code 2 (some .int) :: ws) ({ frames := 0, cells := 0, slots := 0, locals := 0 } : Room)) (fun aa UU => aa = #[(.int x), (.int y)] ∧ Z.Warmed39 UU.vm ∧ UU.heap = h0) (fun _ _ _ _ _ => True) (fun _ UU oo UU' => ∃ vv LL, oo = .returned vv ∧ Q_min Z x y h0 n0 vv UU'.heap LL ∧ FrameEnd UU oo UU' LL ({ frames := 0, cells := 0, slots := 0, locals := 0 } : Room).cells ({ frames := 0, cells := 0, slots := 0, locals := 0 } : Room).slots) := by
  refine MetFree.of_bodySF (Jvm.Free.JP.mathPlain rfl (by decide +kernel)) hisR ?_
  intro p e s mt args below meth cd s₁ Bd hml0 hP hK
  obtain ⟨hA, hZ, hh⟩ := hP
  have hx := Bd.exec
  have hby := Bd.bytes
  have hml : cd.maxLocals = 2 := hml0
  have hown : s.vm.findClass "java/lang/Math" = some mt.cls := findClass_of_methodNamed Bd.named
  have hnm := (name_of_methodNamed Bd.named Bd.method).1
  have hlk : meth.locks = false := BodyLoose.notSynchronized Bd
  have hrt := Bd.returns
  have X0 : Stand p l e ({ frames := 0, cells := 0, slots := 0, locals := 0 } : Room) s mt args below meth cd s₁ [] 0 0 := Stand.of_body Bd
  have e0 : s₁.heap = h0 := by rw [← hh, Bd.state]; rfl
  have N0 := Fr.nil n0
  show Win p e below (Ends s (Q_min Z x y h0 n0) ({ frames := 0, cells := 0, slots := 0, locals := 0 } : Room).cells ({ frames := 0, cells := 0, slots := 0, locals := 0 } : Room).slots) s₁ (entryFrame mt args 2)
  rw [hA, ef_min]
  refine Win.st ?_ (fun tq kq => XS.iloadN X0.here hx rfl (hb hby d_jdk_29_method_69_0) rfl kq)
  show Win p e below _ s₁ (mkF mt 1 #[.val (.int x), .val (.int y)] [(.int x)])
  refine Win.st ?_ (fun tq kq => XS.iloadN X0.here hx rfl (hb hby d_jdk_29_method_69_1) rfl kq)
  show Win p e below _ s₁ (mkF mt 2 #[.val (.int x), .val (.int y)] [(.int y), (.int x)])
  by_cases hc : y < x
  · refine Win.st ?_ (fun tq kq => XS.icmpYes X0.here hx rfl (pc0 := 2) (pc' := 9) rfl (hb hby d_jdk_29_method_69_2) rfl (tlt hc).2.2.1 (by decide) (by decide) kq)
    show Win p e below _ s₁ (mkF mt 9 #[.val (.int x), .val (.int y)] [])
    refine Win.st ?_ (fun tq kq => XS.iloadN X0.here hx rfl (hb hby d_jdk_29_method_69_9) rfl kq)
    show Win p e below _ s₁ (mkF mt 10 #[.val (.int x), .val (.int y)] [(.int y)])
    exact Win.ret X0 hx hlk e0 hrt rfl (Or.inl ⟨rfl, Or.inl rfl, _, rfl⟩) (hb hby d_jdk_29_method_69_10) (by decide) (by decide) ⟨by simp [own_min, hc], N0, rfl⟩
  · refine Win.st ?_ (fun tq kq => XS.icmpNo X0.here hx rfl (hb hby d_jdk_29_method_69_2) rfl (flt hc).2.2.1 kq)
    show Win p e below _ s₁ (mkF mt 5 #[.val (.int x), .val (.int y)] [])
    refine Win.st ?_ (fun tq kq => XS.iloadN X0.here hx rfl (hb hby d_jdk_29_method_69_5) rfl kq)
    show Win p e below _ s₁ (mkF mt 6 #[.val (.int x), .val (.int y)] [(.int x)])
    refine Win.st ?_ (fun tq kq => XS.goto X0.here hx rfl (pc0 := 6) (pc' := 10) rfl (hb hby d_jdk_29_method_69_6) (by decide) (by decide) kq)
    show Win p e below _ s₁ (mkF mt 10 #[.val (.int x), .val (.int y)] [(.int x)])
    exact Win.ret X0 hx hlk e0 hrt rfl (Or.inl ⟨rfl, Or.inl rfl, _, rfl⟩) (hb hby d_jdk_29_method_69_10) (by decide) (by decide) ⟨by simp [own_min, hc], N0, rfl⟩
theorem d_prog_51_method_1_0 : decode prog_51_method_1_code 0 = .ok (.aload_n 0, 1) := by decide +kernel
theorem d_prog_51_method_1_1 : decode prog_51_method_1_code 1 = .ok (.invokespecial 1, 3) := by decide +kernel
theorem d_prog_51_method_1_4 : decode prog_51_method_1_code 4 = .ok (.aload_n 0, 1) := by decide +kernel
theorem d_prog_51_method_1_5 : decode prog_51_method_1_code 5 = .ok (.bipush 8, 2) := by decide +kernel
theorem d_prog_51_method_1_7 : decode prog_51_method_1_code 7 = .ok (.newarray .int, 2) := by decide +kernel
theorem d_prog_51_method_1_9 : decode prog_51_method_1_code 9 = .ok (.putfield 7, 3) := by decide +kernel
theorem d_prog_51_method_1_12 : decode prog_51_method_1_code 12 = .ok (.return_, 1) := by decide +kernel
theorem pn_0 : plainName "com/example/kwerx/kwerx/index/IntList" = true := by first | (simp [plainName, overriddenIn]; done) | decide +kernel
theorem ef_ilinit (mt : MethodId) (a : Addr) : entryFrame mt #[(.ref a)] 1 = mkF mt 0 #[.val (.ref a)] [] := by first | (simp [entryFrame, mkF, argsToLocals, Value.category]; done) | rfl
def Q_ilinit (Z : State) (a : Addr) (h0 : Heap) (n0 : Nat) (v : Option Value) (h : Heap) (L : List Loc) : Prop := v = none ∧ Fr n0 L ∧ Keep h0 h [a] ∧ Fld Z h a "com/example/kwerx/kwerx/index/IntList" "size" "I" (.int (0 : Int32)) ∧ ∃ (b : Addr) (k : ClassId), n0 ≤ b ∧ a ≠ b ∧ Fld Z h a "com/example/kwerx/kwerx/index/IntList" "values" "[I" (.ref b) ∧ Arv Z h b k .int (8 : Int32) (List.replicate 8 (.int (0 : Int32))) (.int (0 : Int32))
set_option maxRecDepth 65536 in
set_option maxHeartbeats 40000000 in
theorem rm_ilinit (l : Launch) (Z : State) (a0 : Array Value) (hw : ∀ d ∈ tables_1, d.before a0 Z = true) (ws : List Jvm.Cond) (a : Addr) (h0 : Heap) (n0 : Nat) (Z0 : n0 ≤ h0.size) (E : Exa Z h0 a "com/example/kwerx/kwerx/index/IntList") (F1 : Fld Z h0 a "com/example/kwerx/kwerx/index/IntList" "values" "[I" .null) (F2 : Fld Z h0 a "com/example/kwerx/kwerx/index/IntList" "size" "I" (.int (0 : Int32))) (ga : n0 ≤ a) :
    MetFree l (⟨"com/example/kwerx/kwerx/index/IntList", "<init>", "()V"⟩ : MethodName) (head1 (Jvm.Cond.code (⟨"com/example/kwerx/kwerx/index/IntList", "<init>", "()V"⟩ : MethodName) prog_51_method_1_code 1 none :: ws) ({ frames := 1, cells := 1, slots := 8, locals := 12 } : Room)) (fun aa UU => aa = #[(.ref a)] ∧ Z.Warmed39 UU.vm ∧ UU.heap = h0) (fun _ _ _ _ _ => True) (fun _ UU oo UU' => ∃ vv LL, oo = .returned vv ∧ Q_ilinit Z a h0 n0 vv UU'.heap LL ∧ FrameEnd UU oo UU' LL ({ frames := 1, cells := 1, slots := 8, locals := 12 } : Room).cells ({ frames := 1, cells := 1, slots := 8, locals := 12 } : Room).slots) := by
  refine MetFree.of_bodySF (plainFor_of_name pn_0) hisR ?_
  intro p e s mt args below meth cd s₁ Bd hml0 hP hK
  obtain ⟨hA, hZ, hh⟩ := hP
  have hx := Bd.exec
  have hby := Bd.bytes
  have hml : cd.maxLocals = 1 := hml0
  have hown : s.vm.findClass "com/example/kwerx/kwerx/index/IntList" = some mt.cls := findClass_of_methodNamed Bd.named
  have hnm := (name_of_methodNamed Bd.named Bd.method).1
  have hlk : meth.locks = false := BodyLoose.notSynchronized Bd
  have hrt := Bd.returns
  have X0 : Stand p l e ({ frames := 1, cells := 1, slots := 8, locals := 12 } : Room) s mt args below meth cd s₁ [] 0 0 := Stand.of_body Bd
  have e0 : s₁.heap = h0 := by rw [← hh, Bd.state]; rfl
  have N0 := Fr.nil n0
  show Win p e below (Ends s (Q_ilinit Z a h0 n0) ({ frames := 1, cells := 1, slots := 8, locals := 12 } : Room).cells ({ frames := 1, cells := 1, slots := 8, locals := 12 } : Room).slots) s₁ (entryFrame mt args 1)
  rw [hA, ef_ilinit]
  refine Win.st ?_ (fun tq kq => XS.aloadN X0.here hx rfl (hb hby d_prog_51_method_1_0) rfl rfl kq)
  show Win p e below _ s₁ (mkF mt 1 #[.val (.ref a)] [(.ref a)])
  obtain ⟨T11, X11, e11, st11⟩ := initO X0 hx hZ hown (hw _ (List.mem_of_getElem? (i := 6) rfl)) (hw _ (List.mem_of_getElem? (i := 7) rfl)) (hw _ (List.mem_of_getElem? (i := 8) rfl)) e0 (g := (mkF mt 1 #[.val (.ref a)] [(.ref a)])) rfl (by rw [hml]; rfl) rfl (hb hby d_prog_51_method_1_1) (by decide) (W := 0) (by show 2 * 0 + _ ≤ _; exact Nat.le_of_eq rfl) (by decide)
  refine Win.st ?_ st11
  show Win p e below _ T11 (mkF mt 4 #[.val (.ref a)] [])
  refine Win.st ?_ (fun tq kq => XS.aloadN X11.here hx rfl (hb hby d_prog_51_method_1_4) rfl rfl kq)
  show Win p e below _ T11 (mkF mt 5 #[.val (.ref a)] [(.ref a)])
  refine Win.st ?_ (fun tq kq => XS.bipush X11.here hx rfl (hb hby d_prog_51_method_1_5) kq)
  show Win p e below _ T11 (mkF mt 7 #[.val (.ref a)] [(.int (8 : Int32)), (.ref a)])
  obtain ⟨T12, h12, k12, X12, e12, E12, A12, st12⟩ := newP X11 hx hZ (hw _ (List.mem_of_getElem? (i := 9) rfl)) e11 (g := (mkF mt 7 #[.val (.ref a)] [(.int (8 : Int32)), (.ref a)])) rfl (hb hby d_prog_51_method_1_7) rfl (by decide) (cap := 8) (by decide) (by decide) (by decide) (by decide)
  obtain ⟨b12, gq12⟩ : ∃ z, z = h0.size := ⟨_, rfl⟩
  rw [← gq12] at A12 st12
  have ne13 : a ≠ b12 := own_new gq12 E.lt
  have g14 : n0 ≤ b12 := own_newle Z0 gq12
  have z15 : h0.size ≤ b12 := own_newle (Keep.refl h0 [a]).1 gq12
  have ke12 := own_kext E12
  replace X12 : Stand p l e _ s mt args below meth cd T12 _ 1 8 := X12
  have f16_17 := E.keep ke12
  have f16_18 := F1.keep ke12 nin0
  have f16_19 := F2.keep ke12 nin0
  have Z17 : n0 ≤ h12.size := Nat.le_trans Z0 ke12.1
  have K18 : Keep h0 h12 [a] := Keep.trans (Keep.refl h0 [a]) ke12 all0
  have V12 : Arv Z h12 b12 k12 .int (8 : Int32) [(.int (0 : Int32)), (.int (0 : Int32)), (.int (0 : Int32)), (.int (0 : Int32)), (.int (0 : Int32)), (.int (0 : Int32)), (.int (0 : Int32)), (.int (0 : Int32))] (.int (0 : Int32)) := (Arv.new A12 (by decide)).pad (pad_rep [] (.int (0 : Int32)) 8)
  refine Win.st ?_ st12
  show Win p e below _ T12 (mkF mt 9 #[.val (.ref a)] [(.ref b12), (.ref a)])
  obtain ⟨T19, h19, X19, e19, W19, st19⟩ := putF X12 hx hZ hown (host := "") (Or.inl (hw _ (List.mem_of_getElem? (i := 10) rfl))) Via.refl e12 f16_18 f16_17 (Or.inl (hw _ (List.mem_of_getElem? (i := 11) rfl))) (hw _ (List.mem_of_getElem? (i := 1) rfl)) (ty := (.array .int)) (by decide) rfl rfl (g := (mkF mt 9 #[.val (.ref a)] [(.ref b12), (.ref a)])) rfl rfl (hb hby d_prog_51_method_1_9)
  obtain ⟨L19, X19, N19⟩ := own_hide X19 N0 ga
  have kp19 := Keep.of_wr W19
  have fw19 := f16_18.same W19
  have f19_29 := f16_19.other W19 (Or.inr (slot_ne (Or.inl (hw _ (List.mem_of_getElem? (i := 18) rfl))) (Or.inl (hw _ (List.mem_of_getElem? (i := 11) rfl))) (by decide) (t := .int) (t' := (.array .int)) (by decide) (by decide)))
  have f20_30 := f16_17.keep kp19
  have f20_31 := V12.keep kp19 (ninS (Ne.symm ne13) nin0)
  have Z21 : n0 ≤ h19.size := Nat.le_trans Z17 kp19.1
  have K22 : Keep h0 h19 [a] := Keep.trans K18 kp19 (allS (Or.inl (List.mem_of_getElem? (i := 0) rfl)) all0)
  refine Win.st ?_ st19
  show Win p e below _ T19 (mkF mt 12 #[.val (.ref a)] [])
  exact Win.retV X19 hx hlk e19 hrt (hb hby d_prog_51_method_1_12) (by decide) (by decide) ⟨rfl, N19, K22, f19_29, b12, _, g14, ne13, fw19, f20_31⟩
theorem d_prog_51_method_6_0 : decode prog_51_method_6_code 0 = .ok (.aload_n 0, 1) := by decide +kernel
theorem d_prog_51_method_6_1 : decode prog_51_method_6_code 1 = .ok (.getfield 13, 3) := by decide +kernel
theorem d_prog_51_method_6_4 : decode prog_51_method_6_code 4 = .ok (.ireturn, 1) := by decide +kernel
theorem ef_ilsize (mt : MethodId) (a : Addr) : entryFrame mt #[(.ref a)] 1 = mkF mt 0 #[.val (.ref a)] [] := by first | (simp [entryFrame, mkF, argsToLocals, Value.category]; done) | rfl
def Q_ilsize (Z : State) (a : Addr) (n : Int32) (h0 : Heap) (n0 : Nat) (v : Option Value) (h : Heap) (L : List Loc) : Prop := v = some (.int n) ∧ Fr n0 L ∧ h = h0
set_option maxRecDepth 65536 in
set_option maxHeartbeats 40000000 in
theorem rm_ilsize (l : Launch) (Z : State) (a0 : Array Value) (hw : ∀ d ∈ tables_1, d.before a0 Z = true) (ws : List Jvm.Cond) (a : Addr) (n : Int32) (h0 : Heap) (n0 : Nat) (Z0 : n0 ≤ h0.size) (F2 : Fld Z h0 a "com/example/kwerx/kwerx/index/IntList" "size" "I" (.int n)) :
    MetFree l (⟨"com/example/kwerx/kwerx/index/IntList", "size", "()I"⟩ : MethodName) (head1 (Jvm.Cond.code (⟨"com/example/kwerx/kwerx/index/IntList", "size", "()I"⟩ : MethodName) prog_51_method_6_code 1 (some .int) :: ws) ({ frames := 0, cells := 0, slots := 0, locals := 0 } : Room)) (fun aa UU => aa = #[(.ref a)] ∧ Z.Warmed39 UU.vm ∧ UU.heap = h0) (fun _ _ _ _ _ => True) (fun _ UU oo UU' => ∃ vv LL, oo = .returned vv ∧ Q_ilsize Z a n h0 n0 vv UU'.heap LL ∧ FrameEnd UU oo UU' LL ({ frames := 0, cells := 0, slots := 0, locals := 0 } : Room).cells ({ frames := 0, cells := 0, slots := 0, locals := 0 } : Room).slots) := by
  refine MetFree.of_bodySF (plainFor_of_name pn_0) hisR ?_
  intro p e s mt args below meth cd s₁ Bd hml0 hP hK
  obtain ⟨hA, hZ, hh⟩ := hP
  have hx := Bd.exec
  have hby := Bd.bytes
  have hml : cd.maxLocals = 1 := hml0
  have hown : s.vm.findClass "com/example/kwerx/kwerx/index/IntList" = some mt.cls := findClass_of_methodNamed Bd.named
  have hnm := (name_of_methodNamed Bd.named Bd.method).1
  have hlk : meth.locks = false := BodyLoose.notSynchronized Bd
  have hrt := Bd.returns
  have X0 : Stand p l e ({ frames := 0, cells := 0, slots := 0, locals := 0 } : Room) s mt args below meth cd s₁ [] 0 0 := Stand.of_body Bd
  have e0 : s₁.heap = h0 := by rw [← hh, Bd.state]; rfl
  have N0 := Fr.nil n0
  show Win p e below (Ends s (Q_ilsize Z a n h0 n0) ({ frames := 0, cells := 0, slots := 0, locals := 0 } : Room).cells ({ frames := 0, cells := 0, slots := 0, locals := 0 } : Room).slots) s₁ (entryFrame mt args 1)
  rw [hA, ef_ilsize]
  refine Win.st ?_ (fun tq kq => XS.aloadN X0.here hx rfl (hb hby d_prog_51_method_6_0) rfl rfl kq)
  show Win p e below _ s₁ (mkF mt 1 #[.val (.ref a)] [(.ref a)])
  obtain ⟨T23, X23, e23, st23⟩ := getF X0 hx hZ hown (host := "") (Or.inl (hw _ (List.mem_of_getElem? (i := 17) rfl))) Via.refl e0 F2 (g := (mkF mt 1 #[.val (.ref a)] [(.ref a)])) rfl rfl (hb hby d_prog_51_method_6_1)
  refine Win.st ?_ st23
  show Win p e below _ T23 (mkF mt 4 #[.val (.ref a)] [(.int n)])
  exact Win.ret X23 hx hlk e23 hrt rfl (Or.inl ⟨rfl, Or.inl rfl, _, rfl⟩) (hb hby d_prog_51_method_6_4) (by decide) (by decide) ⟨rfl, N0, rfl⟩
theorem d_prog_51_method_3_0 : decode prog_51_method_3_code 0 = .ok (.aload_n 0, 1) := by decide +kernel
theorem d_prog_51_method_3_1 : decode prog_51_method_3_code 1 = .ok (.getfield 7, 3) := by decide +kernel
theorem d_prog_51_method_3_4 : decode prog_51_method_3_code 4 = .ok (.iload_n 1, 1) := by decide +kernel
theorem d_prog_51_method_3_5 : decode prog_51_method_3_code 5 = .ok (.iaload, 1) := by decide +kernel
theorem d_prog_51_method_3_6 : decode prog_51_method_3_code 6 = .ok (.ireturn, 1) := by decide +kernel
theorem ef_ilget (mt : MethodId) (a : Addr) (j : Int32) : entryFrame mt #[(.ref a), (.int j)] 2 = mkF mt 0 #[.val (.ref a), .val (.int j)] [] := by first | (simp [entryFrame, mkF, argsToLocals, Value.category]; done) | rfl
def Q_ilget (Z : State) (a : Addr) (j : Int32) (b : Addr) (k : ClassId) (z : Int32) (vs : List Value) (x : Int32) (h0 : Heap) (n0 : Nat) (v : Option Value) (h : Heap) (L : List Loc) : Prop := v = some (.int x) ∧ Fr n0 L ∧ h = h0
set_option maxRecDepth 65536 in
set_option maxHeartbeats 40000000 in
theorem rm_ilget (l : Launch) (Z : State) (a0 : Array Value) (hw : ∀ d ∈ tables_1, d.before a0 Z = true) (ws : List Jvm.Cond) (a : Addr) (j : Int32) (b : Addr) (k : ClassId) (z : Int32) (vs : List Value) (x : Int32) (h0 : Heap) (n0 : Nat) (Z0 : n0 ≤ h0.size) (F1 : Fld Z h0 a "com/example/kwerx/kwerx/index/IntList" "values" "[I" (.ref b)) (V : Arv Z h0 b k .int z vs (.int (0 : Int32))) (h1 : ¬ j < 0) (h2 : j < z) (hv : vs.getD j.toNatClampNeg (.int (0 : Int32)) = .int x) :
    MetFree l (⟨"com/example/kwerx/kwerx/index/IntList", "get", "(I)I"⟩ : MethodName) (head1 (Jvm.Cond.code (⟨"com/example/kwerx/kwerx/index/IntList", "get", "(I)I"⟩ : MethodName) prog_51_method_3_code 2 (some .int) :: ws) ({ frames := 0, cells := 0, slots := 0, locals := 0 } : Room)) (fun aa UU => aa = #[(.ref a), (.int j)] ∧ Z.Warmed39 UU.vm ∧ UU.heap = h0) (fun _ _ _ _ _ => True) (fun _ UU oo UU' => ∃ vv LL, oo = .returned vv ∧ Q_ilget Z a j b k z vs x h0 n0 vv UU'.heap LL ∧ FrameEnd UU oo UU' LL ({ frames := 0, cells := 0, slots := 0, locals := 0 } : Room).cells ({ frames := 0, cells := 0, slots := 0, locals := 0 } : Room).slots) := by
  refine MetFree.of_bodySF (plainFor_of_name pn_0) hisR ?_
  intro p e s mt args below meth cd s₁ Bd hml0 hP hK
  obtain ⟨hA, hZ, hh⟩ := hP
  have hx := Bd.exec
  have hby := Bd.bytes
  have hml : cd.maxLocals = 2 := hml0
  have hown : s.vm.findClass "com/example/kwerx/kwerx/index/IntList" = some mt.cls := findClass_of_methodNamed Bd.named
  have hnm := (name_of_methodNamed Bd.named Bd.method).1
  have hlk : meth.locks = false := BodyLoose.notSynchronized Bd
  have hrt := Bd.returns
  have X0 : Stand p l e ({ frames := 0, cells := 0, slots := 0, locals := 0 } : Room) s mt args below meth cd s₁ [] 0 0 := Stand.of_body Bd
  have e0 : s₁.heap = h0 := by rw [← hh, Bd.state]; rfl
  have N0 := Fr.nil n0
  show Win p e below (Ends s (Q_ilget Z a j b k z vs x h0 n0) ({ frames := 0, cells := 0, slots := 0, locals := 0 } : Room).cells ({ frames := 0, cells := 0, slots := 0, locals := 0 } : Room).slots) s₁ (entryFrame mt args 2)
  rw [hA, ef_ilget]
  refine Win.st ?_ (fun tq kq => XS.aloadN X0.here hx rfl (hb hby d_prog_51_method_3_0) rfl rfl kq)
  show Win p e below _ s₁ (mkF mt 1 #[.val (.ref a), .val (.int j)] [(.ref a)])
  obtain ⟨T24, X24, e24, st24⟩ := getF X0 hx hZ hown (host := "") (Or.inl (hw _ (List.mem_of_getElem? (i := 10) rfl))) Via.refl e0 F1 (g := (mkF mt 1 #[.val (.ref a), .val (.int j)] [(.ref a)])) rfl rfl (hb hby d_prog_51_method_3_1)
  refine Win.st ?_ st24
  show Win p e below _ T24 (mkF mt 4 #[.val (.ref a), .val (.int j)] [(.ref b)])
  refine Win.st ?_ (fun tq kq => XS.iloadN X24.here hx rfl (hb hby d_prog_51_method_3_4) rfl kq)
  show Win p e below _ T24 (mkF mt 5 #[.val (.ref a), .val (.int j)] [(.int j), (.ref b)])
  refine Win.st ?_ (own_iald (g := (mkF mt 5 #[.val (.ref a), .val (.int j)] [(.int j), (.ref b)])) X24 hx hZ e24 V (j := j) (v := (.int x)) h1 h2 hv rfl rfl (hb hby d_prog_51_method_3_5))
  show Win p e below _ T24 (mkF mt 6 #[.val (.ref a), .val (.int j)] [(.int x)])
  exact Win.ret X24 hx hlk e24 hrt rfl (Or.inl ⟨rfl, Or.inl rfl, _, rfl⟩) (hb hby d_prog_51_method_3_6) (by decide) (by decide) ⟨rfl, N0, rfl⟩
theorem d_prog_51_method_5_0 : decode prog_51_method_5_code 0 = .ok (.aload_n 0, 1) := by decide +kernel
theorem d_prog_51_method_5_1 : decode prog_51_method_5_code 1 = .ok (.aload_n 0, 1) := by decide +kernel
theorem d_prog_51_method_5_2 : decode prog_51_method_5_code 2 = .ok (.getfield 13, 3) := by decide +kernel
theorem d_prog_51_method_5_5 : decode prog_51_method_5_code 5 = .ok (.iload_n 1, 1) := by decide +kernel
theorem d_prog_51_method_5_6 : decode prog_51_method_5_code 6 = .ok (.invokestatic 23, 3) := by decide +kernel
theorem pd_0 : parseMethodDescriptor "(II)I" = some ⟨[.int, .int], some .int⟩ := by decide +kernel
theorem d_prog_51_method_5_9 : decode prog_51_method_5_code 9 = .ok (.putfield 13, 3) := by decide +kernel
theorem d_prog_51_method_5_12 : decode prog_51_method_5_code 12 = .ok (.return_, 1) := by decide +kernel
theorem ef_iltrunc (mt : MethodId) (a : Addr) (t : Int32) : entryFrame mt #[(.ref a), (.int t)] 2 = mkF mt 0 #[.val (.ref a), .val (.int t)] [] := by first | (simp [entryFrame, mkF, argsToLocals, Value.category]; done) | rfl
def Q_iltrunc (Z : State) (a : Addr) (t : Int32) (n : Int32) (u : Value) (h0 : Heap) (n0 : Nat) (v : Option Value) (h : Heap) (L : List Loc) : Prop := v = none ∧ Fr n0 L ∧ Keep h0 h [a] ∧ Fld Z h a "com/example/kwerx/kwerx/index/IntList" "size" "I" (.int (own_min n t)) ∧ Fld Z h a "com/example/kwerx/kwerx/index/IntList" "values" "[I" u
set_option maxRecDepth 65536 in
set_option maxHeartbeats 40000000 in
theorem rm_iltrunc (l : Launch) (Z : State) (a0 : Array Value) (hw : ∀ d ∈ tables_1, d.before a0 Z = true) (ws : List Jvm.Cond) (a : Addr) (t : Int32) (n : Int32) (u : Value) (h0 : Heap) (n0 : Nat) (Z0 : n0 ≤ h0.size) (E : Exa Z h0 a "com/example/kwerx/kwerx/index/IntList") (F2 : Fld Z h0 a "com/example/kwerx/kwerx/index/IntList" "size" "I" (.int n)) (F1 : Fld Z h0 a "com/example/kwerx/kwerx/index/IntList" "values" "[I" u) (ga : n0 ≤ a) :
    MetFree l (⟨"com/example/kwerx/kwerx/index/IntList", "truncate", "(I)V"⟩ : MethodName) (head1 (Jvm.Cond.code (⟨"com/example/kwerx/kwerx/index/IntList", "truncate", "(I)V"⟩ : MethodName) prog_51_method_5_code 2 none :: ws) ({ frames := 1, cells := 0, slots := 0, locals := 14 } : Room)) (fun aa UU => aa = #[(.ref a), (.int t)] ∧ Z.Warmed39 UU.vm ∧ UU.heap = h0) (fun _ _ _ _ _ => True) (fun _ UU oo UU' => ∃ vv LL, oo = .returned vv ∧ Q_iltrunc Z a t n u h0 n0 vv UU'.heap LL ∧ FrameEnd UU oo UU' LL ({ frames := 1, cells := 0, slots := 0, locals := 14 } : Room).cells ({ frames := 1, cells := 0, slots := 0, locals := 14 } : Room).slots) := by
  refine MetFree.of_bodySF (plainFor_of_name pn_0) hisR ?_
  intro p e s mt args below meth cd s₁ Bd hml0 hP hK
  obtain ⟨hA, hZ, hh⟩ := hP
  have hx := Bd.exec
  have hby := Bd.bytes
  have hml : cd.maxLocals = 2 := hml0
  have hown : s.vm.findClass "com/example/kwerx/kwerx/index/IntList" = some mt.cls := findClass_of_methodNamed Bd.named
  have hnm := (name_of_methodNamed Bd.named Bd.method).1
  have hlk : meth.locks = false := BodyLoose.notSynchronized Bd
  have hrt := Bd.returns
  have X0 : Stand p l e ({ frames := 1, cells := 0, slots := 0, locals := 14 } : Room) s mt args below meth cd s₁ [] 0 0 := Stand.of_body Bd
  have e0 : s₁.heap = h0 := by rw [← hh, Bd.state]; rfl
  have N0 := Fr.nil n0
  show Win p e below (Ends s (Q_iltrunc Z a t n u h0 n0) ({ frames := 1, cells := 0, slots := 0, locals := 14 } : Room).cells ({ frames := 1, cells := 0, slots := 0, locals := 14 } : Room).slots) s₁ (entryFrame mt args 2)
  rw [hA, ef_iltrunc]
  refine Win.st ?_ (fun tq kq => XS.aloadN X0.here hx rfl (hb hby d_prog_51_method_5_0) rfl rfl kq)
  show Win p e below _ s₁ (mkF mt 1 #[.val (.ref a), .val (.int t)] [(.ref a)])
  refine Win.st ?_ (fun tq kq => XS.aloadN X0.here hx rfl (hb hby d_prog_51_method_5_1) rfl rfl kq)
  show Win p e below _ s₁ (mkF mt 2 #[.val (.ref a), .val (.int t)] [(.ref a), (.ref a)])
  obtain ⟨T25, X25, e25, st25⟩ := getF X0 hx hZ hown (host := "") (Or.inl (hw _ (List.mem_of_getElem? (i := 17) rfl))) Via.refl e0 F2 (g := (mkF mt 2 #[.val (.ref a), .val (.int t)] [(.ref a), (.ref a)])) rfl rfl (hb hby d_prog_51_method_5_2)
  refine Win.st ?_ st25
  show Win p e below _ T25 (mkF mt 5 #[.val (.ref a), .val (.int t)] [(.int n), (.ref a)])
  refine Win.st ?_ (fun tq kq => XS.iloadN X25.here hx rfl (hb hby d_prog_51_method_5_5) rfl kq)
  show Win p e below _ T25 (mkF mt 6 #[.val (.ref a), .val (.int t)] [(.int t), (.int n), (.ref a)])
  obtain ⟨v26, _, ⟨T26, L26, k26, n26⟩, -, X26, ⟨Lc26, hQ26, l26, y26, z26⟩, st26⟩ := Jvm.LawKit.callS X25 hx (y := (⟨"java/lang/Math", "min", "(II)I"⟩ : MethodName)) hown (mvT hZ (hw _ (List.mem_of_getElem? (i := 19) rfl))) (mvT hZ (hw _ (List.mem_of_getElem? (i := 20) rfl))) (mvT hZ (hw _ (List.mem_of_getElem? (i := 21) rfl))) (mvT hZ (hw _ (List.mem_of_getElem? (i := 22) rfl))) (by decide) (backOf (W := 1) (rm_min l Z a0 hw [] n t h0 n0 Z0 ) hZ (hw _ (List.mem_of_getElem? (i := 22) rfl)) (hw _ (List.mem_of_getElem? (i := 21) rfl)) (by decide) (by decide)) (g := (mkF mt 6 #[.val (.ref a), .val (.int t)] [(.int t), (.int n), (.ref a)])) rfl (by rw [hml]; rfl) (argsL := [(.int n), (.int t)]) (rest := [(.ref a)]) (lenOf pd_0 rfl) rfl (by show 2 * 0 + _ ≤ _; exact Nat.le_of_eq rfl) (hb hby d_prog_51_method_5_6) (fun _ _ => ⟨rfl, e25, (by decide : 0 + 0 ≤ _), (by decide : 0 + 0 ≤ _)⟩)
  dsimp only [Pt.U, Pt.locs, Pt.cells, Pt.slots] at X26 l26 y26 z26 st26 hQ26
  subst y26 z26
  replace X26 : Stand p l e _ s mt args below meth cd T26 L26 0 0 := X26
  obtain ⟨h26, e26⟩ : ∃ z, T26.heap = z := ⟨_, rfl⟩
  rw [e26] at hQ26
  obtain ⟨rfl, Nq26, eh26⟩ := hQ26
  have N26 : Fr n0 L26 := by rw [l26]; exact Fr.app N0 Nq26
  rw [eh26] at e26
  refine Win.st ?_ st26
  show Win p e below _ T26 (mkF mt 9 #[.val (.ref a), .val (.int t)] [(.int (own_min n t)), (.ref a)])
  obtain ⟨T27, h27, X27, e27, W27, st27⟩ := putF X26 hx hZ hown (host := "") (Or.inl (hw _ (List.mem_of_getElem? (i := 17) rfl))) Via.refl e26 F2 E (Or.inl (hw _ (List.mem_of_getElem? (i := 18) rfl))) (hw _ (List.mem_of_getElem? (i := 1) rfl)) (ty := .int) (by decide) rfl rfl (g := (mkF mt 9 #[.val (.ref a), .val (.int t)] [(.int (own_min n t)), (.ref a)])) rfl rfl (hb hby d_prog_51_method_5_9)
  obtain ⟨L27, X27, N27⟩ := own_hide X27 N26 ga
  have kp27 := Keep.of_wr W27
  have fw27 := F2.same W27
  have f27_24 := F1.other W27 (Or.inr (slot_ne (Or.inl (hw _ (List.mem_of_getElem? (i := 11) rfl))) (Or.inl (hw _ (List.mem_of_getElem? (i := 18) rfl))) (by decide) (t := (.array .int)) (t' := .int) (by decide) (by decide)))
  have f28_25 := E.keep kp27
  have Z29 : n0 ≤ h27.size := Nat.le_trans Z0 kp27.1
  have K30 : Keep h0 h27 [a] := Keep.trans (Keep.refl h0 [a]) kp27 (allS (Or.inl (List.mem_of_getElem? (i := 0) rfl)) all0)
  refine Win.st ?_ st27
  show Win p e below _ T27 (mkF mt 12 #[.val (.ref a), .val (.int t)] [])
  exact Win.retV X27 hx hlk e27 hrt (hb hby d_prog_51_method_5_12) (by decide) (by decide) ⟨rfl, N27, K30, fw27, f27_24⟩
theorem d_prog_51_method_2_0 : decode prog_51_method_2_code 0 = .ok (.aload_n 0, 1) := by decide +kernel
theorem d_prog_51_method_2_1 : decode prog_51_method_2_code 1 = .ok (.getfield 13, 3) := by decide +kernel
theorem d_prog_51_method_2_4 : decode prog_51_method_2_code 4 = .ok (.aload_n 0, 1) := by decide +kernel
theorem d_prog_51_method_2_5 : decode prog_51_method_2_code 5 = .ok (.getfield 7, 3) := by decide +kernel
theorem d_prog_51_method_2_8 : decode prog_51_method_2_code 8 = .ok (.arraylength, 1) := by decide +kernel
theorem d_prog_51_method_2_9 : decode prog_51_method_2_code 9 = .ok (.if_icmp .ne 20, 3) := by decide +kernel
theorem d_prog_51_method_2_29 : decode prog_51_method_2_code 29 = .ok (.aload_n 0, 1) := by decide +kernel
theorem d_prog_51_method_2_30 : decode prog_51_method_2_code 30 = .ok (.getfield 7, 3) := by decide +kernel
theorem d_prog_51_method_2_33 : decode prog_51_method_2_code 33 = .ok (.aload_n 0, 1) := by decide +kernel
theorem d_prog_51_method_2_34 : decode prog_51_method_2_code 34 = .ok (.dup, 1) := by decide +kernel
theorem d_prog_51_method_2_35 : decode prog_51_method_2_code 35 = .ok (.getfield 13, 3) := by decide +kernel
theorem d_prog_51_method_2_38 : decode prog_51_method_2_code 38 = .ok (.dup_x1, 1) := by decide +kernel
theorem d_prog_51_method_2_39 : decode prog_51_method_2_code 39 = .ok (.iconst 1, 1) := by decide +kernel
theorem d_prog_51_method_2_40 : decode prog_51_method_2_code 40 = .ok (.iadd, 1) := by decide +kernel
theorem d_prog_51_method_2_41 : decode prog_51_method_2_code 41 = .ok (.putfield 13, 3) := by decide +kernel
theorem d_prog_51_method_2_44 : decode prog_51_method_2_code 44 = .ok (.iload_n 1, 1) := by decide +kernel
theorem d_prog_51_method_2_45 : decode prog_51_method_2_code 45 = .ok (.iastore, 1) := by decide +kernel
theorem d_prog_51_method_2_46 : decode prog_51_method_2_code 46 = .ok (.return_, 1) := by decide +kernel
theorem ef_iladd (mt : MethodId) (a : Addr) (x : Int32) : entryFrame mt #[(.ref a), (.int x)] 2 = mkF mt 0 #[.val (.ref a), .val (.int x)] [] := by first | (simp [entryFrame, mkF, argsToLocals, Value.category]; done) | rfl
def Q_iladd (Z : State) (a : Addr) (x : Int32) (b : Addr) (k : ClassId) (z : Int32) (n : Int32) (vs : List Value) (h0 : Heap) (n0 : Nat) (v : Option Value) (h : Heap) (L : List Loc) : Prop := v = none ∧ Fr n0 L ∧ Keep h0 h [a, b] ∧ Fld Z h a "com/example/kwerx/kwerx/index/IntList" "values" "[I" (.ref b) ∧ Fld Z h a "com/example/kwerx/kwerx/index/IntList" "size" "I" (.int (n + (1 : Int32))) ∧ Arv Z h b k .int z (vs.set n.toNatClampNeg (.int x)) (.int (0 : Int32))
set_option maxRecDepth 65536 in
set_option maxHeartbeats 40000000 in
theorem rm_iladd (l : Launch) (Z : State) (a0 : Array Value) (hw : ∀ d ∈ tables_1, d.before a0 Z = true) (ws : List Jvm.Cond) (a : Addr) (x : Int32) (b : Addr) (k : ClassId) (z : Int32) (n : Int32) (vs : List Value) (h0 : Heap) (n0 : Nat) (Z0 : n0 ≤ h0.size) (E : Exa Z h0 a "com/example/kwerx/kwerx/index/IntList") (F1 : Fld Z h0 a "com/example/kwerx/kwerx/index/IntList" "values" "[I" (.ref b)) (F2 : Fld Z h0 a "com/example/kwerx/kwerx/index/IntList" "size" "I" (.int n)) (V : Arv Z h0 b k .int z vs (.int (0 : Int32))) (h1 : ¬ n < 0) (h2 : n < z) (hl : n.toNatClampNeg < vs.length) (ga : n0 ≤ a) (gb : n0 ≤ b) (nab : a ≠ b) :
    MetFree l (⟨"com/example/kwerx/kwerx/index/IntList", "add", "(I)V"⟩ : MethodName) (head1 (Jvm.Cond.code (⟨"com/example/kwerx/kwerx/index/IntList", "add", "(I)V"⟩ : MethodName) prog_51_method_2_code 2 none :: ws) ({ frames := 0, cells := 0, slots := 0, locals := 0 } : Room)) (fun aa UU => aa = #[(.ref a), (.int x)] ∧ Z.Warmed39 UU.vm ∧ UU.heap = h0) (fun _ _ _ _ _ => True) (fun _ UU oo UU' => ∃ vv LL, oo = .returned vv ∧ Q_iladd Z a x b k z n vs h0 n0 vv UU'.heap LL ∧ FrameEnd UU oo UU' LL ({ frames := 0, cells := 0, slots := 0, locals := 0 } : Room).cells ({ frames := 0, cells := 0, slots := 0, locals := 0 } : Room).slots) := by
  refine MetFree.of_bodySF (plainFor_of_name pn_0) hisR ?_
  intro p e s mt args below meth cd s₁ Bd hml0 hP hK
  obtain ⟨hA, hZ, hh⟩ := hP
  have hx := Bd.exec
  have hby := Bd.bytes
  have hml : cd.maxLocals = 2 := hml0
  have hown : s.vm.findClass "com/example/kwerx/kwerx/index/IntList" = some mt.cls := findClass_of_methodNamed Bd.named
  have hnm := (name_of_methodNamed Bd.named Bd.method).1
  have hlk : meth.locks = false := BodyLoose.notSynchronized Bd
  have hrt := Bd.returns
  have X0 : Stand p l e ({ frames := 0, cells := 0, slots := 0, locals := 0 } : Room) s mt args below meth cd s₁ [] 0 0 := Stand.of_body Bd
  have e0 : s₁.heap = h0 := by rw [← hh, Bd.state]; rfl
  have N0 := Fr.nil n0
  show Win p e below (Ends s (Q_iladd Z a x b k z n vs h0 n0) ({ frames := 0, cells := 0, slots := 0, locals := 0 } : Room).cells ({ frames := 0, cells := 0, slots := 0, locals := 0 } : Room).slots) s₁ (entryFrame mt args 2)
  rw [hA, ef_iladd]
  refine Win.st ?_ (fun tq kq => XS.aloadN X0.here hx rfl (hb hby d_prog_51_method_2_0) rfl rfl kq)
  show Win p e below _ s₁ (mkF mt 1 #[.val (.ref a), .val (.int x)] [(.ref a)])
  obtain ⟨T31, X31, e31, st31⟩ := getF X0 hx hZ hown (host := "") (Or.inl (hw _ (List.mem_of_getElem? (i := 17) rfl))) Via.refl e0 F2 (g := (mkF mt 1 #[.val (.ref a), .val (.int x)] [(.ref a)])) rfl rfl (hb hby d_prog_51_method_2_1)
  refine Win.st ?_ st31
  show Win p e below _ T31 (mkF mt 4 #[.val (.ref a), .val (.int x)] [(.int n)])
  refine Win.st ?_ (fun tq kq => XS.aloadN X31.here hx rfl (hb hby d_prog_51_method_2_4) rfl rfl kq)
  show Win p e below _ T31 (mkF mt 5 #[.val (.ref a), .val (.int x)] [(.ref a), (.int n)])
  obtain ⟨T32, X32, e32, st32⟩ := getF X31 hx hZ hown (host := "") (Or.inl (hw _ (List.mem_of_getElem? (i := 10) rfl))) Via.refl e31 F1 (g := (mkF mt 5 #[.val (.ref a), .val (.int x)] [(.ref a), (.int n)])) rfl rfl (hb hby d_prog_51_method_2_5)
  refine Win.st ?_ st32
  show Win p e below _ T32 (mkF mt 8 #[.val (.ref a), .val (.int x)] [(.ref b), (.int n)])
  refine Win.st ?_ (own_alen (g := (mkF mt 8 #[.val (.ref a), .val (.int x)] [(.ref b), (.int n)])) X32 hx hZ e32 V rfl rfl (hb hby d_prog_51_method_2_8))
  show Win p e below _ T32 (mkF mt 9 #[.val (.ref a), .val (.int x)] [(.int z), (.int n)])
  refine Win.st ?_ (fun tq kq => XS.icmpYes X32.here hx rfl (pc0 := 9) (pc' := 29) rfl (hb hby d_prog_51_method_2_9) rfl (feq (fun q => by rw [q] at h2; exact absurd h2 Int32.lt_irrefl)).2 (by decide) (by decide) kq)
  show Win p e below _ T32 (mkF mt 29 #[.val (.ref a), .val (.int x)] [])
  refine Win.st ?_ (fun tq kq => XS.aloadN X32.here hx rfl (hb hby d_prog_51_method_2_29) rfl rfl kq)
  show Win p e below _ T32 (mkF mt 30 #[.val (.ref a), .val (.int x)] [(.ref a)])
  obtain ⟨T33, X33, e33, st33⟩ := getF X32 hx hZ hown (host := "") (Or.inl (hw _ (List.mem_of_getElem? (i := 10) rfl))) Via.refl e32 F1 (g := (mkF mt 30 #[.val (.ref a), .val (.int x)] [(.ref a)])) rfl rfl (hb hby d_prog_51_method_2_30)
  refine Win.st ?_ st33
  show Win p e below _ T33 (mkF mt 33 #[.val (.ref a), .val (.int x)] [(.ref b)])
  refine Win.st ?_ (fun tq kq => XS.aloadN X33.here hx rfl (hb hby d_prog_51_method_2_33) rfl rfl kq)
  show Win p e below _ T33 (mkF mt 34 #[.val (.ref a), .val (.int x)] [(.ref a), (.ref b)])
  refine Win.st ?_ (fun tq kq => XS.dup X33.here hx rfl (hb hby d_prog_51_method_2_34) rfl rfl kq)
  show Win p e below _ T33 (mkF mt 35 #[.val (.ref a), .val (.int x)] [(.ref a), (.ref a), (.ref b)])
  obtain ⟨T34, X34, e34, st34⟩ := getF X33 hx hZ hown (host := "") (Or.inl (hw _ (List.mem_of_getElem? (i := 17) rfl))) Via.refl e33 F2 (g := (mkF mt 35 #[.val (.ref a), .val (.int x)] [(.ref a), (.ref a), (.ref b)])) rfl rfl (hb hby d_prog_51_method_2_35)
  refine Win.st ?_ st34
  show Win p e below _ T34 (mkF mt 38 #[.val (.ref a), .val (.int x)] [(.int n), (.ref a), (.ref b)])
  refine Win.st ?_ (fun tq kq => XS.dupX1 X34.here hx rfl (hb hby d_prog_51_method_2_38) rfl rfl rfl kq)
  show Win p e below _ T34 (mkF mt 39 #[.val (.ref a), .val (.int x)] [(.int n), (.ref a), (.int n), (.ref b)])
  refine Win.st ?_ (fun tq kq => XS.iconst X34.here hx rfl (hb hby d_prog_51_method_2_39) kq)
  show Win p e below _ T34 (mkF mt 40 #[.val (.ref a), .val (.int x)] [(.int (1 : Int32)), (.int n), (.ref a), (.int n), (.ref b)])
  refine Win.st ?_ (fun tq kq => XS.iadd X34.here hx rfl (hb hby d_prog_51_method_2_40) rfl kq)
  show Win p e below _ T34 (mkF mt 41 #[.val (.ref a), .val (.int x)] [(.int (n + (1 : Int32))), (.ref a), (.int n), (.ref b)])
  obtain ⟨T35, h35, X35, e35, W35, st35⟩ := putF X34 hx hZ hown (host := "") (Or.inl (hw _ (List.mem_of_getElem? (i := 17) rfl))) Via.refl e34 F2 E (Or.inl (hw _ (List.mem_of_getElem? (i := 18) rfl))) (hw _ (List.mem_of_getElem? (i := 1) rfl)) (ty := .int) (by decide) rfl rfl (g := (mkF mt 41 #[.val (.ref a), .val (.int x)] [(.int (n + (1 : Int32))), (.ref a), (.int n), (.ref b)])) rfl rfl (hb hby d_prog_51_method_2_41)
  obtain ⟨L35, X35, N35⟩ := own_hide X35 N0 ga
  have kp35 := Keep.of_wr W35
  have f35_35 := F1.other W35 (Or.inr (slot_ne (Or.inl (hw _ (List.mem_of_getElem? (i := 11) rfl))) (Or.inl (hw _ (List.mem_of_getElem? (i := 18) rfl))) (by decide) (t := (.array .int)) (t' := .int) (by decide) (by decide)))
  have fw35 := F2.same W35
  have f36_37 := E.keep kp35
  have f36_38 := V.keep kp35 (ninS (Ne.symm nab) nin0)
  have Z37 : n0 ≤ h35.size := Nat.le_trans Z0 kp35.1
  have K38 : Keep h0 h35 [a, b] := Keep.trans (Keep.refl h0 [a, b]) kp35 (allS (Or.inl (List.mem_of_getElem? (i := 0) rfl)) all0)
  refine Win.st ?_ st35
  show Win p e below _ T35 (mkF mt 44 #[.val (.ref a), .val (.int x)] [(.int n), (.ref b)])
  refine Win.st ?_ (fun tq kq => XS.iloadN X35.here hx rfl (hb hby d_prog_51_method_2_44) rfl kq)
  show Win p e below _ T35 (mkF mt 45 #[.val (.ref a), .val (.int x)] [(.int x), (.int n), (.ref b)])
  obtain ⟨T39, h39, L39, X39, N39, e39, kp39, V39, st39⟩ := own_iast (g := (mkF mt 45 #[.val (.ref a), .val (.int x)] [(.int x), (.int n), (.ref b)])) X35 hx hZ e35 N35 gb f36_38 (j := n) h1 h2 (i := n.toNatClampNeg) rfl hl rfl rfl (hb hby d_prog_51_method_2_45)
  have f40_46 := f36_37.keep kp39
  have f40_47 := f35_35.keep kp39 (ninS nab nin0)
  have f40_48 := fw35.keep kp39 (ninS nab nin0)
  have Z41 : n0 ≤ h39.size := Nat.le_trans Z37 kp39.1
  have K42 : Keep h0 h39 [a, b] := Keep.trans K38 kp39 (allS (Or.inl (List.mem_of_getElem? (i := 1) rfl)) all0)
  refine Win.st ?_ st39
  show Win p e below _ T39 (mkF mt 46 #[.val (.ref a), .val (.int x)] [])
  exact Win.retV X39 hx hlk e39 hrt (hb hby d_prog_51_method_2_46) (by decide) (by decide) ⟨rfl, N39, K42, f40_47, f40_48, V39⟩
theorem pd_1 : parseMethodDescriptor "()V" = some ⟨[], none⟩ := by decide +kernel
theorem pd_2 : parseMethodDescriptor "(I)V" = some ⟨[.int], none⟩ := by decide +kernel
theorem pd_3 : parseMethodDescriptor "()I" = some ⟨[], some .int⟩ := by decide +kernel
theorem pd_4 : parseMethodDescriptor "(I)I" = some ⟨[.int], some .int⟩ := by decide +kernel
theorem pn_1 : plainName "com/example/kwerx/kwerx/index/IntListTruncatePinLaw" = true := by first | (simp [plainName, overriddenIn]; done) | decide +kernel
theorem ef_law (mt : MethodId) (a : Int32) (b : Int32) (c : Int32) (v0 : Int32) (v1 : Int32) (v2 : Int32) : entryFrame mt #[(.int a), (.int b), (.int c), (.int v0), (.int v1), (.int v2)] maxLocals = mkF mt 0 #[.val (.int a), .val (.int b), .val (.int c), .val (.int v0), .val (.int v1), .val (.int v2), .unset, .unset, .unset, .unset, .unset] [] := by first | (simp [entryFrame, mkF, argsToLocals, Value.category, maxLocals]; done) | rfl
def Q_law (Z : State) (a : Int32) (b : Int32) (c : Int32) (v0 : Int32) (v1 : Int32) (v2 : Int32) (h0 : Heap) (n0 : Nat) (v : Option Value) (h : Heap) (L : List Loc) : Prop := v = some (.int 1) ∧ Fr n0 L
set_option maxRecDepth 65536 in
set_option maxHeartbeats 40000000 in
theorem rm_law (l : Launch) (Z : State) (a0 : Array Value) (hw : ∀ d ∈ tables_1, d.before a0 Z = true) (ws : List Jvm.Cond) (a : Int32) (b : Int32) (c : Int32) (v0 : Int32) (v1 : Int32) (v2 : Int32) (h0 : Heap) (n0 : Nat) (Z0 : n0 ≤ h0.size) :
    MetFree l x (head1 (Jvm.Cond.code x code maxLocals ret :: ws) room_1) (fun aa UU => aa = #[(.int a), (.int b), (.int c), (.int v0), (.int v1), (.int v2)] ∧ Z.Warmed39 UU.vm ∧ UU.heap = h0) (fun _ _ _ _ _ => True) (fun _ UU oo UU' => ∃ vv LL, oo = .returned vv ∧ Q_law Z a b c v0 v1 v2 h0 n0 vv UU'.heap LL ∧ FrameEnd UU oo UU' LL 2 10) := by
  refine MetFree.of_bodySF (plainFor_of_name pn_1) hisR ?_
  intro p e s mt args below meth cd s₁ Bd hml0 hP hK
  obtain ⟨hA, hZ, hh⟩ := hP
  have hx := Bd.exec
  have hby := Bd.bytes
  have hml : cd.maxLocals = 11 := hml0
  have hown : s.vm.findClass "com/example/kwerx/kwerx/index/IntListTruncatePinLaw" = some mt.cls := findClass_of_methodNamed Bd.named
  have hnm := (name_of_methodNamed Bd.named Bd.method).1
  have hlk : meth.locks = false := BodyLoose.notSynchronized Bd
  have hrt := Bd.returns
  have X0 : Stand p l e room_1 s mt args below meth cd s₁ [] 0 0 := Stand.of_body Bd
  have e0 : s₁.heap = h0 := by rw [← hh, Bd.state]; rfl
  have N0 := Fr.nil n0
  show Win p e below (Ends s (Q_law Z a b c v0 v1 v2 h0 n0) 2 10) s₁ (entryFrame mt args maxLocals)
  rw [hA, ef_law]
  refine Win.st ?_ (fun tq kq => XS.iloadN X0.here hx rfl (hb hby at_0) rfl kq)
  show Win p e below _ s₁ (mkF mt 1 #[.val (.int a), .val (.int b), .val (.int c), .val (.int v0), .val (.int v1), .val (.int v2), .unset, .unset, .unset, .unset, .unset] [(.int a)])
  refine Win.st ?_ (fun tq kq => XS.iconst X0.here hx rfl (hb hby at_1) kq)
  show Win p e below _ s₁ (mkF mt 2 #[.val (.int a), .val (.int b), .val (.int c), .val (.int v0), .val (.int v1), .val (.int v2), .unset, .unset, .unset, .unset, .unset] [(.int (3 : Int32)), (.int a)])
  refine Win.st ?_ (fun tq kq => XS.iand X0.here hx rfl (hb hby at_2) rfl kq)
  show Win p e below _ s₁ (mkF mt 3 #[.val (.int a), .val (.int b), .val (.int c), .val (.int v0), .val (.int v1), .val (.int v2), .unset, .unset, .unset, .unset, .unset] [(.int (a &&& (3 : Int32)))])
  obtain ⟨n, hn⟩ : ∃ z, z = (a &&& (3 : Int32)) := ⟨_, rfl⟩
  have hn0 : 0 ≤ n.toInt ∧ n.toInt ≤ 3 := by have q := c_mask a 3 2 (by decide) (by decide); rw [← hn] at q; omega
  rw [← hn]
  show Win p e below _ s₁ (mkF mt 3 #[.val (.int a), .val (.int b), .val (.int c), .val (.int v0), .val (.int v1), .val (.int v2), .unset, .unset, .unset, .unset, .unset] [(.int n)])
  refine Win.st ?_ (fun tq kq => XS.istore X0.here hx rfl (hb hby at_3) rfl (l' := #[.val (.int a), .val (.int b), .val (.int c), .val (.int v0), .val (.int v1), .val (.int v2), .val (.int n), .unset, .unset, .unset, .unset]) rfl kq)
  show Win p e below _ s₁ (mkF mt 5 #[.val (.int a), .val (.int b), .val (.int c), .val (.int v0), .val (.int v1), .val (.int v2), .val (.int n), .unset, .unset, .unset, .unset] [])
  refine Win.st ?_ (fun tq kq => XS.iloadN X0.here hx rfl (hb hby at_5) rfl kq)
  show Win p e below _ s₁ (mkF mt 6 #[.val (.int a), .val (.int b), .val (.int c), .val (.int v0), .val (.int v1), .val (.int v2), .val (.int n), .unset, .unset, .unset, .unset] [(.int c)])
  refine Win.st ?_ (fun tq kq => XS.iconst X0.here hx rfl (hb hby at_6) kq)
  show Win p e below _ s₁ (mkF mt 7 #[.val (.int a), .val (.int b), .val (.int c), .val (.int v0), .val (.int v1), .val (.int v2), .val (.int n), .unset, .unset, .unset, .unset] [(.int (1 : Int32)), (.int c)])
  refine Win.st ?_ (fun tq kq => XS.iand X0.here hx rfl (hb hby at_7) rfl kq)
  show Win p e below _ s₁ (mkF mt 8 #[.val (.int a), .val (.int b), .val (.int c), .val (.int v0), .val (.int v1), .val (.int v2), .val (.int n), .unset, .unset, .unset, .unset] [(.int (c &&& (1 : Int32)))])
  have jt : ∀ (T43 : State) (L43 : List Loc) (t : Int32), Stand p l e room_1 s mt args below meth cd T43 L43 0 0 → T43.heap = h0 → Fr n0 L43 → (0 ≤ t.toInt) → Win p e below (Ends s (Q_law Z a b c v0 v1 v2 h0 n0) 2 10) T43 (mkF mt 26 #[.val (.int a), .val (.int b), .val (.int c), .val (.int v0), .val (.int v1), .val (.int v2), .val (.int n), .val (.int t), .unset, .unset, .unset] []) := by
    intro T43 L43 t X43 e43 N43 ht
    refine Win.st ?_ (fun tq kq => XS.iloadN X43.here hx rfl (hb hby at_26) rfl kq)
    show Win p e below _ T43 (mkF mt 27 #[.val (.int a), .val (.int b), .val (.int c), .val (.int v0), .val (.int v1), .val (.int v2), .val (.int n), .val (.int t), .unset, .unset, .unset] [(.int c)])
    refine Win.st ?_ (fun tq kq => XS.istore X43.here hx rfl (hb hby at_27) rfl (l' := #[.val (.int a), .val (.int b), .val (.int c), .val (.int v0), .val (.int v1), .val (.int v2), .val (.int n), .val (.int t), .val (.int c), .unset, .unset]) rfl kq)
    show Win p e below _ T43 (mkF mt 29 #[.val (.int a), .val (.int b), .val (.int c), .val (.int v0), .val (.int v1), .val (.int v2), .val (.int n), .val (.int t), .val (.int c), .unset, .unset] [])
    obtain ⟨T44, h44, X44, e44, E44, A44, D44, -, st44⟩ := newO X43 hx hZ hown (hw _ (List.mem_of_getElem? (i := 0) rfl)) (hw _ (List.mem_of_getElem? (i := 1) rfl)) (hw _ (List.mem_of_getElem? (i := 2) rfl)) e43 (g := (mkF mt 29 #[.val (.int a), .val (.int b), .val (.int c), .val (.int v0), .val (.int v1), .val (.int v2), .val (.int n), .val (.int t), .val (.int c), .unset, .unset] [])) rfl (hb hby at_29) (by decide) (by decide)
    obtain ⟨b44, gq44⟩ : ∃ z, z = h0.size := ⟨_, rfl⟩
    rw [← gq44] at A44 D44 st44
    have g45 : n0 ≤ b44 := own_newle Z0 gq44
    have ke44 := own_kext E44
    replace X44 : Stand p l e _ s mt args below meth cd T44 _ 1 2 := X44
    have Z47 : n0 ≤ h44.size := Nat.le_trans Z0 ke44.1
    have fn44_values : Fld Z h44 b44 "com/example/kwerx/kwerx/index/IntList" "values" "[I" .null := D44 (Or.inl (hw _ (List.mem_of_getElem? (i := 11) rfl))) (ty := (.array .int)) (by decide)
    have fn44_size : Fld Z h44 b44 "com/example/kwerx/kwerx/index/IntList" "size" "I" (.int (0 : Int32)) := D44 (Or.inl (hw _ (List.mem_of_getElem? (i := 18) rfl))) (ty := .int) (by decide)
    refine Win.st ?_ st44
    show Win p e below _ T44 (mkF mt 32 #[.val (.int a), .val (.int b), .val (.int c), .val (.int v0), .val (.int v1), .val (.int v2), .val (.int n), .val (.int t), .val (.int c), .unset, .unset] [(.ref b44)])
    refine Win.st ?_ (fun tq kq => XS.dup X44.here hx rfl (hb hby at_32) rfl rfl kq)
    show Win p e below _ T44 (mkF mt 33 #[.val (.int a), .val (.int b), .val (.int c), .val (.int v0), .val (.int v1), .val (.int v2), .val (.int n), .val (.int t), .val (.int c), .unset, .unset] [(.ref b44), (.ref b44)])
    obtain ⟨v48, _, ⟨T48, L48, k48, n48⟩, -, X48, ⟨Lc48, hQ48, l48, y48, z48⟩, st48⟩ := X44.specialBack hx (y := (⟨"com/example/kwerx/kwerx/index/IntList", "<init>", "()V"⟩ : MethodName)) rfl hown (mvT hZ (hw _ (List.mem_of_getElem? (i := 3) rfl))) (mvT hZ (hw _ (List.mem_of_getElem? (i := 4) rfl))) (mvT hZ (hw _ (List.mem_of_getElem? (i := 5) rfl))) (by decide) (backOf (W := 1) (rm_ilinit l Z a0 hw [] b44 h44 n0 Z47 A44 fn44_values fn44_size g45) hZ (hw _ (List.mem_of_getElem? (i := 5) rfl)) (hw _ (List.mem_of_getElem? (i := 2) rfl)) (by decide) (by decide)) (g := (mkF mt 33 #[.val (.int a), .val (.int b), .val (.int c), .val (.int v0), .val (.int v1), .val (.int v2), .val (.int n), .val (.int t), .val (.int c), .unset, .unset] [(.ref b44), (.ref b44)])) rfl (by rw [hml]; rfl) (Steps.refl _) (a := b44) (argsL := []) (rest := [(.ref b44)]) (lenOf pd_1 rfl) rfl (by show 2 * 0 + _ ≤ _; exact Nat.le_of_eq rfl) (hb hby at_33) (fun _ _ => ⟨rfl, e44, (by decide : 1 + 1 ≤ _), (by decide : 2 + 8 ≤ _)⟩)
    dsimp only [Pt.U, Pt.locs, Pt.cells, Pt.slots] at X48 l48 y48 z48 st48 hQ48
    subst y48 z48
    replace X48 : Stand p l e _ s mt args below meth cd T48 L48 2 10 := X48
    obtain ⟨h48, e48⟩ : ∃ z, T48.heap = z := ⟨_, rfl⟩
    rw [e48] at hQ48
    obtain ⟨rfl, Nq48, K48, fs48, bb, kk, gb, nab, fv48, V48⟩ := hQ48
    have N48 : Fr n0 L48 := by rw [l48]; exact Fr.app N43 Nq48
    have f49_45 := A44.keep K48
    have Z50 : n0 ≤ h48.size := Nat.le_trans Z47 K48.1
    refine Win.tr ?_ st48
    show Win p e below _ T48 (mkF mt 36 #[.val (.int a), .val (.int b), .val (.int c), .val (.int v0), .val (.int v1), .val (.int v2), .val (.int n), .val (.int t), .val (.int c), .unset, .unset] [(.ref b44)])
    refine Win.st ?_ (fun tq kq => XS.astore X48.here hx rfl (hb hby at_36) rfl rfl (l' := #[.val (.int a), .val (.int b), .val (.int c), .val (.int v0), .val (.int v1), .val (.int v2), .val (.int n), .val (.int t), .val (.int c), .val (.ref b44), .unset]) rfl kq)
    show Win p e below _ T48 (mkF mt 38 #[.val (.int a), .val (.int b), .val (.int c), .val (.int v0), .val (.int v1), .val (.int v2), .val (.int n), .val (.int t), .val (.int c), .val (.ref b44), .unset] [])
    refine Win.st ?_ (fun tq kq => XS.iload X48.here hx rfl (hb hby at_38) rfl kq)
    show Win p e below _ T48 (mkF mt 40 #[.val (.int a), .val (.int b), .val (.int c), .val (.int v0), .val (.int v1), .val (.int v2), .val (.int n), .val (.int t), .val (.int c), .val (.ref b44), .unset] [(.int n)])
    have j1 : ∀ (T51 : State) (h51 : Heap) (L51 : List Loc) (sz : Int32) (vs : List Value), Stand p l e room_1 s mt args below meth cd T51 L51 2 10 → T51.heap = h51 → Fr n0 L51 → n0 ≤ h51.size → (vs.length = 8) → (sz.toInt = min n.toInt 1) → (0 < n.toInt → vs.getD 0 (.int (0 : Int32)) = .int v0) → Exa Z h51 b44 "com/example/kwerx/kwerx/index/IntList" → Fld Z h51 b44 "com/example/kwerx/kwerx/index/IntList" "size" "I" (.int sz) → Fld Z h51 b44 "com/example/kwerx/kwerx/index/IntList" "values" "[I" (.ref bb) → Arv Z h51 bb kk .int (8 : Int32) vs (.int (0 : Int32)) → Win p e below (Ends s (Q_law Z a b c v0 v1 v2 h0 n0) 2 10) T51 (mkF mt 49 #[.val (.int a), .val (.int b), .val (.int c), .val (.int v0), .val (.int v1), .val (.int v2), .val (.int n), .val (.int t), .val (.int c), .val (.ref b44), .unset] []) := by
      intro T51 h51 L51 sz vs X51 e51 N51 Z51 hl hz hv0 f51_0 f51_1 f51_2 f51_3
      refine Win.st ?_ (fun tq kq => XS.iload X51.here hx rfl (hb hby at_49) rfl kq)
      show Win p e below _ T51 (mkF mt 51 #[.val (.int a), .val (.int b), .val (.int c), .val (.int v0), .val (.int v1), .val (.int v2), .val (.int n), .val (.int t), .val (.int c), .val (.ref b44), .unset] [(.int n)])
      refine Win.st ?_ (fun tq kq => XS.iconst X51.here hx rfl (hb hby at_51) kq)
      show Win p e below _ T51 (mkF mt 52 #[.val (.int a), .val (.int b), .val (.int c), .val (.int v0), .val (.int v1), .val (.int v2), .val (.int n), .val (.int t), .val (.int c), .val (.ref b44), .unset] [(.int (1 : Int32)), (.int n)])
      have j2 : ∀ (T52 : State) (h52 : Heap) (L52 : List Loc) (sz : Int32) (vs : List Value), Stand p l e room_1 s mt args below meth cd T52 L52 2 10 → T52.heap = h52 → Fr n0 L52 → n0 ≤ h52.size → (vs.length = 8) → (sz.toInt = min n.toInt 2) → (0 < n.toInt → vs.getD 0 (.int (0 : Int32)) = .int v0) → (1 < n.toInt → vs.getD 1 (.int (0 : Int32)) = .int v1) → Exa Z h52 b44 "com/example/kwerx/kwerx/index/IntList" → Fld Z h52 b44 "com/example/kwerx/kwerx/index/IntList" "size" "I" (.int sz) → Fld Z h52 b44 "com/example/kwerx/kwerx/index/IntList" "values" "[I" (.ref bb) → Arv Z h52 bb kk .int (8 : Int32) vs (.int (0 : Int32)) → Win p e below (Ends s (Q_law Z a b c v0 v1 v2 h0 n0) 2 10) T52 (mkF mt 62 #[.val (.int a), .val (.int b), .val (.int c), .val (.int v0), .val (.int v1), .val (.int v2), .val (.int n), .val (.int t), .val (.int c), .val (.ref b44), .unset] []) := by
        intro T52 h52 L52 sz vs X52 e52 N52 Z52 hl hz hv0 hv1 f52_0 f52_1 f52_2 f52_3
        refine Win.st ?_ (fun tq kq => XS.iload X52.here hx rfl (hb hby at_62) rfl kq)
        show Win p e below _ T52 (mkF mt 64 #[.val (.int a), .val (.int b), .val (.int c), .val (.int v0), .val (.int v1), .val (.int v2), .val (.int n), .val (.int t), .val (.int c), .val (.ref b44), .unset] [(.int n)])
        refine Win.st ?_ (fun tq kq => XS.iconst X52.here hx rfl (hb hby at_64) kq)
        show Win p e below _ T52 (mkF mt 65 #[.val (.int a), .val (.int b), .val (.int c), .val (.int v0), .val (.int v1), .val (.int v2), .val (.int n), .val (.int t), .val (.int c), .val (.ref b44), .unset] [(.int (2 : Int32)), (.int n)])
        have j3 : ∀ (T53 : State) (h53 : Heap) (L53 : List Loc) (sz : Int32) (vs : List Value), Stand p l e room_1 s mt args below meth cd T53 L53 2 10 → T53.heap = h53 → Fr n0 L53 → n0 ≤ h53.size → (vs.length = 8) → (sz.toInt = min n.toInt 3) → (0 < n.toInt → vs.getD 0 (.int (0 : Int32)) = .int v0) → (1 < n.toInt → vs.getD 1 (.int (0 : Int32)) = .int v1) → (2 < n.toInt → vs.getD 2 (.int (0 : Int32)) = .int v2) → Exa Z h53 b44 "com/example/kwerx/kwerx/index/IntList" → Fld Z h53 b44 "com/example/kwerx/kwerx/index/IntList" "size" "I" (.int sz) → Fld Z h53 b44 "com/example/kwerx/kwerx/index/IntList" "values" "[I" (.ref bb) → Arv Z h53 bb kk .int (8 : Int32) vs (.int (0 : Int32)) → Win p e below (Ends s (Q_law Z a b c v0 v1 v2 h0 n0) 2 10) T53 (mkF mt 75 #[.val (.int a), .val (.int b), .val (.int c), .val (.int v0), .val (.int v1), .val (.int v2), .val (.int n), .val (.int t), .val (.int c), .val (.ref b44), .unset] []) := by
          intro T53 h53 L53 sz vs X53 e53 N53 Z53 hl hz hv0 hv1 hv2 f53_0 f53_1 f53_2 f53_3
          refine Win.st ?_ (fun tq kq => XS.aload X53.here hx rfl (hb hby at_75) rfl rfl kq)
          show Win p e below _ T53 (mkF mt 77 #[.val (.int a), .val (.int b), .val (.int c), .val (.int v0), .val (.int v1), .val (.int v2), .val (.int n), .val (.int t), .val (.int c), .val (.ref b44), .unset] [(.ref b44)])
          refine Win.st ?_ (fun tq kq => XS.iload X53.here hx rfl (hb hby at_77) rfl kq)
          show Win p e below _ T53 (mkF mt 79 #[.val (.int a), .val (.int b), .val (.int c), .val (.int v0), .val (.int v1), .val (.int v2), .val (.int n), .val (.int t), .val (.int c), .val (.ref b44), .unset] [(.int t), (.ref b44)])
          obtain ⟨cq54, kq54, q54a, q54b, q54c⟩ := isOf hZ e53 f53_0
          obtain ⟨v54, _, ⟨T54, L54, k54, n54⟩, -, X54, ⟨Lc54, hQ54, l54, y54, z54⟩, st54⟩ := X53.virtualBack hx (y := (⟨"com/example/kwerx/kwerx/index/IntList", "truncate", "(I)V"⟩ : MethodName)) (z := (⟨"com/example/kwerx/kwerx/index/IntList", "truncate", "(I)V"⟩ : MethodName)) hown (mvT hZ (hw _ (List.mem_of_getElem? (i := 12) rfl))) (mvT hZ (hw _ (List.mem_of_getElem? (i := 13) rfl))) (notFace_of_selects (args := #[]) (mvT hZ (hw _ (List.mem_of_getElem? (i := 15) rfl)))) (mvT hZ (hw _ (List.mem_of_getElem? (i := 15) rfl))) (mvT hZ (hw _ (List.mem_of_getElem? (i := 14) rfl))) (by decide) (backOf (W := 0) (rm_iltrunc l Z a0 hw [] b44 t sz (.ref bb) h53 n0 Z53 f53_0 f53_1 f53_2 g45) hZ (hw _ (List.mem_of_getElem? (i := 16) rfl)) (hw _ (List.mem_of_getElem? (i := 2) rfl)) (by decide) (by decide)) q54a q54c (g := (mkF mt 79 #[.val (.int a), .val (.int b), .val (.int c), .val (.int v0), .val (.int v1), .val (.int v2), .val (.int n), .val (.int t), .val (.int c), .val (.ref b44), .unset] [(.int t), (.ref b44)])) rfl (by rw [hml]; rfl) (Steps.refl _) (argsL := [(.int t)]) (rest := []) (lenOf pd_2 rfl) rfl (by show 2 * 0 + _ ≤ _; exact Nat.le_of_eq rfl) (hb hby at_79) (fun _ _ => ⟨rfl, e53, (by decide : 2 + 0 ≤ _), (by decide : 10 + 0 ≤ _)⟩)
          dsimp only [Pt.U, Pt.locs, Pt.cells, Pt.slots] at X54 l54 y54 z54 st54 hQ54
          subst y54 z54
          replace X54 : Stand p l e _ s mt args below meth cd T54 L54 2 10 := X54
          obtain ⟨h54, e54⟩ : ∃ z, T54.heap = z := ⟨_, rfl⟩
          rw [e54] at hQ54
          obtain ⟨rfl, Nq54, K54, fs54, fv54⟩ := hQ54
          have N54 : Fr n0 L54 := by rw [l54]; exact Fr.app N53 Nq54
          have f55_80 := f53_0.keep K54
          have f55_81 := f53_3.keep K54 (ninS (Ne.symm nab) nin0)
          have Z56 : n0 ≤ h54.size := Nat.le_trans Z53 K54.1
          refine Win.tr ?_ st54
          show Win p e below _ T54 (mkF mt 82 #[.val (.int a), .val (.int b), .val (.int c), .val (.int v0), .val (.int v1), .val (.int v2), .val (.int n), .val (.int t), .val (.int c), .val (.ref b44), .unset] [])
          refine Win.st ?_ (fun tq kq => XS.iload X54.here hx rfl (hb hby at_82) rfl kq)
          show Win p e below _ T54 (mkF mt 84 #[.val (.int a), .val (.int b), .val (.int c), .val (.int v0), .val (.int v1), .val (.int v2), .val (.int n), .val (.int t), .val (.int c), .val (.ref b44), .unset] [(.int t)])
          refine Win.st ?_ (fun tq kq => XS.iload X54.here hx rfl (hb hby at_84) rfl kq)
          show Win p e below _ T54 (mkF mt 86 #[.val (.int a), .val (.int b), .val (.int c), .val (.int v0), .val (.int v1), .val (.int v2), .val (.int n), .val (.int t), .val (.int c), .val (.ref b44), .unset] [(.int n), (.int t)])
          have j5 : ∀ (T57 : State) (L57 : List Loc) (ex : Int32), Stand p l e room_1 s mt args below meth cd T57 L57 2 10 → T57.heap = h54 → Fr n0 L57 → (ex.toInt = min t.toInt n.toInt) → Win p e below (Ends s (Q_law Z a b c v0 v1 v2 h0 n0) 2 10) T57 (mkF mt 100 #[.val (.int a), .val (.int b), .val (.int c), .val (.int v0), .val (.int v1), .val (.int v2), .val (.int n), .val (.int t), .val (.int c), .val (.ref b44), .val (.int ex)] []) := by
            intro T57 L57 ex X57 e57 N57 hex
            have hq : own_min sz t = ex := Int32.toInt_inj.mp (by rw [own_min_toInt]; omega)
            have fx := hq ▸ fs54
            replace fx : Fld Z h54 b44 "com/example/kwerx/kwerx/index/IntList" "size" "I" (.int ex) := fx
            refine Win.st ?_ (fun tq kq => XS.aload X57.here hx rfl (hb hby at_100) rfl rfl kq)
            show Win p e below _ T57 (mkF mt 102 #[.val (.int a), .val (.int b), .val (.int c), .val (.int v0), .val (.int v1), .val (.int v2), .val (.int n), .val (.int t), .val (.int c), .val (.ref b44), .val (.int ex)] [(.ref b44)])
            obtain ⟨cq58, kq58, q58a, q58b, q58c⟩ := isOf hZ e57 f55_80
            obtain ⟨v58, _, ⟨T58, L58, k58, n58⟩, -, X58, ⟨Lc58, hQ58, l58, y58, z58⟩, st58⟩ := X57.virtualBack hx (y := (⟨"com/example/kwerx/kwerx/index/IntList", "size", "()I"⟩ : MethodName)) (z := (⟨"com/example/kwerx/kwerx/index/IntList", "size", "()I"⟩ : MethodName)) hown (mvT hZ (hw _ (List.mem_of_getElem? (i := 23) rfl))) (mvT hZ (hw _ (List.mem_of_getElem? (i := 24) rfl))) (notFace_of_selects (args := #[]) (mvT hZ (hw _ (List.mem_of_getElem? (i := 26) rfl)))) (mvT hZ (hw _ (List.mem_of_getElem? (i := 26) rfl))) (mvT hZ (hw _ (List.mem_of_getElem? (i := 25) rfl))) (by decide) (backOf (W := 0) (rm_ilsize l Z a0 hw [] b44 ex h54 n0 Z56 fx) hZ (hw _ (List.mem_of_getElem? (i := 27) rfl)) (hw _ (List.mem_of_getElem? (i := 2) rfl)) (by decide) (by decide)) q58a q58c (g := (mkF mt 102 #[.val (.int a), .val (.int b), .val (.int c), .val (.int v0), .val (.int v1), .val (.int v2), .val (.int n), .val (.int t), .val (.int c), .val (.ref b44), .val (.int ex)] [(.ref b44)])) rfl (by rw [hml]; rfl) (Steps.refl _) (argsL := []) (rest := []) (lenOf pd_3 rfl) rfl (by show 2 * 0 + _ ≤ _; exact Nat.le_of_eq rfl) (hb hby at_102) (fun _ _ => ⟨rfl, e57, (by decide : 2 + 0 ≤ _), (by decide : 10 + 0 ≤ _)⟩)
            dsimp only [Pt.U, Pt.locs, Pt.cells, Pt.slots] at X58 l58 y58 z58 st58 hQ58
            subst y58 z58
            replace X58 : Stand p l e _ s mt args below meth cd T58 L58 2 10 := X58
            obtain ⟨h58, e58⟩ : ∃ z, T58.heap = z := ⟨_, rfl⟩
            rw [e58] at hQ58
            obtain ⟨rfl, Nq58, eh58⟩ := hQ58
            have N58 : Fr n0 L58 := by rw [l58]; exact Fr.app N57 Nq58
            rw [eh58] at e58
            refine Win.tr ?_ st58
            show Win p e below _ T58 (mkF mt 105 #[.val (.int a), .val (.int b), .val (.int c), .val (.int v0), .val (.int v1), .val (.int v2), .val (.int n), .val (.int t), .val (.int c), .val (.ref b44), .val (.int ex)] [(.int ex)])
            refine Win.st ?_ (fun tq kq => XS.iload X58.here hx rfl (hb hby at_105) rfl kq)
            show Win p e below _ T58 (mkF mt 107 #[.val (.int a), .val (.int b), .val (.int c), .val (.int v0), .val (.int v1), .val (.int v2), .val (.int n), .val (.int t), .val (.int c), .val (.ref b44), .val (.int ex)] [(.int ex), (.int ex)])
            refine Win.st ?_ (fun tq kq => XS.icmpYes X58.here hx rfl (pc0 := 107) (pc' := 112) rfl (hb hby at_107) rfl (teq (rfl : ex = ex)).1 (by decide) (by decide) kq)
            show Win p e below _ T58 (mkF mt 112 #[.val (.int a), .val (.int b), .val (.int c), .val (.int v0), .val (.int v1), .val (.int v2), .val (.int n), .val (.int t), .val (.int c), .val (.ref b44), .val (.int ex)] [])
            refine Win.st ?_ (fun tq kq => XS.iload X58.here hx rfl (hb hby at_112) rfl kq)
            show Win p e below _ T58 (mkF mt 114 #[.val (.int a), .val (.int b), .val (.int c), .val (.int v0), .val (.int v1), .val (.int v2), .val (.int n), .val (.int t), .val (.int c), .val (.ref b44), .val (.int ex)] [(.int ex)])
            have j6 : ∀ (T59 : State) (L59 : List Loc), Stand p l e room_1 s mt args below meth cd T59 L59 2 10 → T59.heap = h54 → Fr n0 L59 → Win p e below (Ends s (Q_law Z a b c v0 v1 v2 h0 n0) 2 10) T59 (mkF mt 129 #[.val (.int a), .val (.int b), .val (.int c), .val (.int v0), .val (.int v1), .val (.int v2), .val (.int n), .val (.int t), .val (.int c), .val (.ref b44), .val (.int ex)] []) := by
              intro T59 L59 X59 e59 N59
              refine Win.st ?_ (fun tq kq => XS.iload X59.here hx rfl (hb hby at_129) rfl kq)
              show Win p e below _ T59 (mkF mt 131 #[.val (.int a), .val (.int b), .val (.int c), .val (.int v0), .val (.int v1), .val (.int v2), .val (.int n), .val (.int t), .val (.int c), .val (.ref b44), .val (.int ex)] [(.int ex)])
              refine Win.st ?_ (fun tq kq => XS.iconst X59.here hx rfl (hb hby at_131) kq)
              show Win p e below _ T59 (mkF mt 132 #[.val (.int a), .val (.int b), .val (.int c), .val (.int v0), .val (.int v1), .val (.int v2), .val (.int n), .val (.int t), .val (.int c), .val (.ref b44), .val (.int ex)] [(.int (1 : Int32)), (.int ex)])
              have j7 : ∀ (T60 : State) (L60 : List Loc), Stand p l e room_1 s mt args below meth cd T60 L60 2 10 → T60.heap = h54 → Fr n0 L60 → Win p e below (Ends s (Q_law Z a b c v0 v1 v2 h0 n0) 2 10) T60 (mkF mt 148 #[.val (.int a), .val (.int b), .val (.int c), .val (.int v0), .val (.int v1), .val (.int v2), .val (.int n), .val (.int t), .val (.int c), .val (.ref b44), .val (.int ex)] []) := by
                intro T60 L60 X60 e60 N60
                refine Win.st ?_ (fun tq kq => XS.iload X60.here hx rfl (hb hby at_148) rfl kq)
                show Win p e below _ T60 (mkF mt 150 #[.val (.int a), .val (.int b), .val (.int c), .val (.int v0), .val (.int v1), .val (.int v2), .val (.int n), .val (.int t), .val (.int c), .val (.ref b44), .val (.int ex)] [(.int ex)])
                refine Win.st ?_ (fun tq kq => XS.iconst X60.here hx rfl (hb hby at_150) kq)
                show Win p e below _ T60 (mkF mt 151 #[.val (.int a), .val (.int b), .val (.int c), .val (.int v0), .val (.int v1), .val (.int v2), .val (.int n), .val (.int t), .val (.int c), .val (.ref b44), .val (.int ex)] [(.int (2 : Int32)), (.int ex)])
                have j8 : ∀ (T61 : State) (L61 : List Loc), Stand p l e room_1 s mt args below meth cd T61 L61 2 10 → T61.heap = h54 → Fr n0 L61 → Win p e below (Ends s (Q_law Z a b c v0 v1 v2 h0 n0) 2 10) T61 (mkF mt 167 #[.val (.int a), .val (.int b), .val (.int c), .val (.int v0), .val (.int v1), .val (.int v2), .val (.int n), .val (.int t), .val (.int c), .val (.ref b44), .val (.int ex)] []) := by
                  intro T61 L61 X61 e61 N61
                  refine Win.st ?_ (fun tq kq => XS.aload X61.here hx rfl (hb hby at_167) rfl rfl kq)
                  show Win p e below _ T61 (mkF mt 169 #[.val (.int a), .val (.int b), .val (.int c), .val (.int v0), .val (.int v1), .val (.int v2), .val (.int n), .val (.int t), .val (.int c), .val (.ref b44), .val (.int ex)] [(.ref b44)])
                  refine Win.st ?_ (fun tq kq => XS.iload X61.here hx rfl (hb hby at_169) rfl kq)
                  show Win p e below _ T61 (mkF mt 171 #[.val (.int a), .val (.int b), .val (.int c), .val (.int v0), .val (.int v1), .val (.int v2), .val (.int n), .val (.int t), .val (.int c), .val (.ref b44), .val (.int ex)] [(.int c), (.ref b44)])
                  obtain ⟨cq62, kq62, q62a, q62b, q62c⟩ := isOf hZ e61 f55_80
                  obtain ⟨v62, _, ⟨T62, L62, k62, n62⟩, -, X62, ⟨Lc62, hQ62, l62, y62, z62⟩, st62⟩ := X61.virtualBack hx (y := (⟨"com/example/kwerx/kwerx/index/IntList", "add", "(I)V"⟩ : MethodName)) (z := (⟨"com/example/kwerx/kwerx/index/IntList", "add", "(I)V"⟩ : MethodName)) hown (mvT hZ (hw _ (List.mem_of_getElem? (i := 28) rfl))) (mvT hZ (hw _ (List.mem_of_getElem? (i := 29) rfl))) (notFace_of_selects (args := #[]) (mvT hZ (hw _ (List.mem_of_getElem? (i := 31) rfl)))) (mvT hZ (hw _ (List.mem_of_getElem? (i := 31) rfl))) (mvT hZ (hw _ (List.mem_of_getElem? (i := 30) rfl))) (by decide) (backOf (W := 0) (rm_iladd l Z a0 hw [] b44 c bb kk (8 : Int32) ex vs h54 n0 Z56 f55_80 fv54 fx f55_81 (own_nlt (by rw [own_i0]; omega)) (own_lt (by rw [own_i8]; omega)) (by have := own_clamp (x := ex) (by omega); omega) g45 gb nab) hZ (hw _ (List.mem_of_getElem? (i := 32) rfl)) (hw _ (List.mem_of_getElem? (i := 2) rfl)) (by decide) (by decide)) q62a q62c (g := (mkF mt 171 #[.val (.int a), .val (.int b), .val (.int c), .val (.int v0), .val (.int v1), .val (.int v2), .val (.int n), .val (.int t), .val (.int c), .val (.ref b44), .val (.int ex)] [(.int c), (.ref b44)])) rfl (by rw [hml]; rfl) (Steps.refl _) (argsL := [(.int c)]) (rest := []) (lenOf pd_2 rfl) rfl (by show 2 * 0 + _ ≤ _; exact Nat.le_of_eq rfl) (hb hby at_171) (fun _ _ => ⟨rfl, e61, (by decide : 2 + 0 ≤ _), (by decide : 10 + 0 ≤ _)⟩)
                  dsimp only [Pt.U, Pt.locs, Pt.cells, Pt.slots] at X62 l62 y62 z62 st62 hQ62
                  subst y62 z62
                  replace X62 : Stand p l e _ s mt args below meth cd T62 L62 2 10 := X62
                  obtain ⟨h62, e62⟩ : ∃ z, T62.heap = z := ⟨_, rfl⟩
                  rw [e62] at hQ62
                  obtain ⟨rfl, Nq62, K62, fv62, fs62, V62⟩ := hQ62
                  have N62 : Fr n0 L62 := by rw [l62]; exact Fr.app N61 Nq62
                  have f63_141 := f55_80.keep K62
                  have Z64 : n0 ≤ h62.size := Nat.le_trans Z56 K62.1
                  refine Win.tr ?_ st62
                  show Win p e below _ T62 (mkF mt 174 #[.val (.int a), .val (.int b), .val (.int c), .val (.int v0), .val (.int v1), .val (.int v2), .val (.int n), .val (.int t), .val (.int c), .val (.ref b44), .val (.int ex)] [])
                  refine Win.st ?_ (fun tq kq => XS.aload X62.here hx rfl (hb hby at_174) rfl rfl kq)
                  show Win p e below _ T62 (mkF mt 176 #[.val (.int a), .val (.int b), .val (.int c), .val (.int v0), .val (.int v1), .val (.int v2), .val (.int n), .val (.int t), .val (.int c), .val (.ref b44), .val (.int ex)] [(.ref b44)])
                  obtain ⟨cq65, kq65, q65a, q65b, q65c⟩ := isOf hZ e62 f63_141
                  obtain ⟨v65, _, ⟨T65, L65, k65, n65⟩, -, X65, ⟨Lc65, hQ65, l65, y65, z65⟩, st65⟩ := X62.virtualBack hx (y := (⟨"com/example/kwerx/kwerx/index/IntList", "size", "()I"⟩ : MethodName)) (z := (⟨"com/example/kwerx/kwerx/index/IntList", "size", "()I"⟩ : MethodName)) hown (mvT hZ (hw _ (List.mem_of_getElem? (i := 23) rfl))) (mvT hZ (hw _ (List.mem_of_getElem? (i := 24) rfl))) (notFace_of_selects (args := #[]) (mvT hZ (hw _ (List.mem_of_getElem? (i := 26) rfl)))) (mvT hZ (hw _ (List.mem_of_getElem? (i := 26) rfl))) (mvT hZ (hw _ (List.mem_of_getElem? (i := 25) rfl))) (by decide) (backOf (W := 0) (rm_ilsize l Z a0 hw [] b44 (ex + (1 : Int32)) h62 n0 Z64 fs62) hZ (hw _ (List.mem_of_getElem? (i := 27) rfl)) (hw _ (List.mem_of_getElem? (i := 2) rfl)) (by decide) (by decide)) q65a q65c (g := (mkF mt 176 #[.val (.int a), .val (.int b), .val (.int c), .val (.int v0), .val (.int v1), .val (.int v2), .val (.int n), .val (.int t), .val (.int c), .val (.ref b44), .val (.int ex)] [(.ref b44)])) rfl (by rw [hml]; rfl) (Steps.refl _) (argsL := []) (rest := []) (lenOf pd_3 rfl) rfl (by show 2 * 0 + _ ≤ _; exact Nat.le_of_eq rfl) (hb hby at_176) (fun _ _ => ⟨rfl, e62, (by decide : 2 + 0 ≤ _), (by decide : 10 + 0 ≤ _)⟩)
                  dsimp only [Pt.U, Pt.locs, Pt.cells, Pt.slots] at X65 l65 y65 z65 st65 hQ65
                  subst y65 z65
                  replace X65 : Stand p l e _ s mt args below meth cd T65 L65 2 10 := X65
                  obtain ⟨h65, e65⟩ : ∃ z, T65.heap = z := ⟨_, rfl⟩
                  rw [e65] at hQ65
                  obtain ⟨rfl, Nq65, eh65⟩ := hQ65
                  have N65 : Fr n0 L65 := by rw [l65]; exact Fr.app N62 Nq65
                  rw [eh65] at e65
                  refine Win.tr ?_ st65
                  show Win p e below _ T65 (mkF mt 179 #[.val (.int a), .val (.int b), .val (.int c), .val (.int v0), .val (.int v1), .val (.int v2), .val (.int n), .val (.int t), .val (.int c), .val (.ref b44), .val (.int ex)] [(.int (ex + (1 : Int32)))])
                  refine Win.st ?_ (fun tq kq => XS.iload X65.here hx rfl (hb hby at_179) rfl kq)
                  show Win p e below _ T65 (mkF mt 181 #[.val (.int a), .val (.int b), .val (.int c), .val (.int v0), .val (.int v1), .val (.int v2), .val (.int n), .val (.int t), .val (.int c), .val (.ref b44), .val (.int ex)] [(.int ex), (.int (ex + (1 : Int32)))])
                  refine Win.st ?_ (fun tq kq => XS.iconst X65.here hx rfl (hb hby at_181) kq)
                  show Win p e below _ T65 (mkF mt 182 #[.val (.int a), .val (.int b), .val (.int c), .val (.int v0), .val (.int v1), .val (.int v2), .val (.int n), .val (.int t), .val (.int c), .val (.ref b44), .val (.int ex)] [(.int (1 : Int32)), (.int ex), (.int (ex + (1 : Int32)))])
                  refine Win.st ?_ (fun tq kq => XS.iadd X65.here hx rfl (hb hby at_182) rfl kq)
                  show Win p e below _ T65 (mkF mt 183 #[.val (.int a), .val (.int b), .val (.int c), .val (.int v0), .val (.int v1), .val (.int v2), .val (.int n), .val (.int t), .val (.int c), .val (.ref b44), .val (.int ex)] [(.int (ex + (1 : Int32))), (.int (ex + (1 : Int32)))])
                  refine Win.st ?_ (fun tq kq => XS.icmpYes X65.here hx rfl (pc0 := 183) (pc' := 188) rfl (hb hby at_183) rfl (teq (rfl : (ex + (1 : Int32)) = (ex + (1 : Int32)))).1 (by decide) (by decide) kq)
                  show Win p e below _ T65 (mkF mt 188 #[.val (.int a), .val (.int b), .val (.int c), .val (.int v0), .val (.int v1), .val (.int v2), .val (.int n), .val (.int t), .val (.int c), .val (.ref b44), .val (.int ex)] [])
                  refine Win.st ?_ (fun tq kq => XS.aload X65.here hx rfl (hb hby at_188) rfl rfl kq)
                  show Win p e below _ T65 (mkF mt 190 #[.val (.int a), .val (.int b), .val (.int c), .val (.int v0), .val (.int v1), .val (.int v2), .val (.int n), .val (.int t), .val (.int c), .val (.ref b44), .val (.int ex)] [(.ref b44)])
                  refine Win.st ?_ (fun tq kq => XS.iload X65.here hx rfl (hb hby at_190) rfl kq)
                  show Win p e below _ T65 (mkF mt 192 #[.val (.int a), .val (.int b), .val (.int c), .val (.int v0), .val (.int v1), .val (.int v2), .val (.int n), .val (.int t), .val (.int c), .val (.ref b44), .val (.int ex)] [(.int ex), (.ref b44)])
                  obtain ⟨cq66, kq66, q66a, q66b, q66c⟩ := isOf hZ e65 f63_141
                  obtain ⟨v66, _, ⟨T66, L66, k66, n66⟩, -, X66, ⟨Lc66, hQ66, l66, y66, z66⟩, st66⟩ := X65.virtualBack hx (y := (⟨"com/example/kwerx/kwerx/index/IntList", "get", "(I)I"⟩ : MethodName)) (z := (⟨"com/example/kwerx/kwerx/index/IntList", "get", "(I)I"⟩ : MethodName)) hown (mvT hZ (hw _ (List.mem_of_getElem? (i := 33) rfl))) (mvT hZ (hw _ (List.mem_of_getElem? (i := 34) rfl))) (notFace_of_selects (args := #[]) (mvT hZ (hw _ (List.mem_of_getElem? (i := 36) rfl)))) (mvT hZ (hw _ (List.mem_of_getElem? (i := 36) rfl))) (mvT hZ (hw _ (List.mem_of_getElem? (i := 35) rfl))) (by decide) (backOf (W := 0) (rm_ilget l Z a0 hw [] b44 ex bb kk (8 : Int32) (vs.set ex.toNatClampNeg (.int c)) c h62 n0 Z64 fv62 V62 (own_nlt (by rw [own_i0]; omega)) (own_lt (by rw [own_i8]; omega)) (own_set_same (by have := own_clamp (x := ex) (by omega); omega))) hZ (hw _ (List.mem_of_getElem? (i := 37) rfl)) (hw _ (List.mem_of_getElem? (i := 2) rfl)) (by decide) (by decide)) q66a q66c (g := (mkF mt 192 #[.val (.int a), .val (.int b), .val (.int c), .val (.int v0), .val (.int v1), .val (.int v2), .val (.int n), .val (.int t), .val (.int c), .val (.ref b44), .val (.int ex)] [(.int ex), (.ref b44)])) rfl (by rw [hml]; rfl) (Steps.refl _) (argsL := [(.int ex)]) (rest := []) (lenOf pd_4 rfl) rfl (by show 2 * 0 + _ ≤ _; exact Nat.le_of_eq rfl) (hb hby at_192) (fun _ _ => ⟨rfl, e65, (by decide : 2 + 0 ≤ _), (by decide : 10 + 0 ≤ _)⟩)
                  dsimp only [Pt.U, Pt.locs, Pt.cells, Pt.slots] at X66 l66 y66 z66 st66 hQ66
                  subst y66 z66
                  replace X66 : Stand p l e _ s mt args below meth cd T66 L66 2 10 := X66
                  obtain ⟨h66, e66⟩ : ∃ z, T66.heap = z := ⟨_, rfl⟩
                  rw [e66] at hQ66
                  obtain ⟨rfl, Nq66, eh66⟩ := hQ66
                  have N66 : Fr n0 L66 := by rw [l66]; exact Fr.app N65 Nq66
                  rw [eh66] at e66
                  refine Win.tr ?_ st66
                  show Win p e below _ T66 (mkF mt 195 #[.val (.int a), .val (.int b), .val (.int c), .val (.int v0), .val (.int v1), .val (.int v2), .val (.int n), .val (.int t), .val (.int c), .val (.ref b44), .val (.int ex)] [(.int c)])
                  refine Win.st ?_ (fun tq kq => XS.iload X66.here hx rfl (hb hby at_195) rfl kq)
                  show Win p e below _ T66 (mkF mt 197 #[.val (.int a), .val (.int b), .val (.int c), .val (.int v0), .val (.int v1), .val (.int v2), .val (.int n), .val (.int t), .val (.int c), .val (.ref b44), .val (.int ex)] [(.int c), (.int c)])
                  refine Win.st ?_ (fun tq kq => XS.icmpNo X66.here hx rfl (hb hby at_197) rfl (teq (rfl : c = c)).2 kq)
                  show Win p e below _ T66 (mkF mt 200 #[.val (.int a), .val (.int b), .val (.int c), .val (.int v0), .val (.int v1), .val (.int v2), .val (.int n), .val (.int t), .val (.int c), .val (.ref b44), .val (.int ex)] [])
                  refine Win.st ?_ (fun tq kq => XS.iconst X66.here hx rfl (hb hby at_200) kq)
                  show Win p e below _ T66 (mkF mt 201 #[.val (.int a), .val (.int b), .val (.int c), .val (.int v0), .val (.int v1), .val (.int v2), .val (.int n), .val (.int t), .val (.int c), .val (.ref b44), .val (.int ex)] [(.int (1 : Int32))])
                  refine Win.st ?_ (fun tq kq => XS.goto X66.here hx rfl (pc0 := 201) (pc' := 205) rfl (hb hby at_201) (by decide) (by decide) kq)
                  show Win p e below _ T66 (mkF mt 205 #[.val (.int a), .val (.int b), .val (.int c), .val (.int v0), .val (.int v1), .val (.int v2), .val (.int n), .val (.int t), .val (.int c), .val (.ref b44), .val (.int ex)] [(.int (1 : Int32))])
                  exact Win.retN X66 hx hlk e66 (t := .boolean) (z' := (1 : Int32)) hrt (by simp) (hb hby at_205) (by decide) (by decide) rfl ⟨rfl, N66⟩
                by_cases hc151 : (2 : Int32) < ex
                · refine Win.st ?_ (fun tq kq => XS.icmpNo X60.here hx rfl (hb hby at_151) rfl (tlt hc151).2.2.2 kq)
                  show Win p e below _ T60 (mkF mt 154 #[.val (.int a), .val (.int b), .val (.int c), .val (.int v0), .val (.int v1), .val (.int v2), .val (.int n), .val (.int t), .val (.int c), .val (.ref b44), .val (.int ex)] [])
                  refine Win.st ?_ (fun tq kq => XS.aload X60.here hx rfl (hb hby at_154) rfl rfl kq)
                  show Win p e below _ T60 (mkF mt 156 #[.val (.int a), .val (.int b), .val (.int c), .val (.int v0), .val (.int v1), .val (.int v2), .val (.int n), .val (.int t), .val (.int c), .val (.ref b44), .val (.int ex)] [(.ref b44)])
                  refine Win.st ?_ (fun tq kq => XS.iconst X60.here hx rfl (hb hby at_156) kq)
                  show Win p e below _ T60 (mkF mt 157 #[.val (.int a), .val (.int b), .val (.int c), .val (.int v0), .val (.int v1), .val (.int v2), .val (.int n), .val (.int t), .val (.int c), .val (.ref b44), .val (.int ex)] [(.int (2 : Int32)), (.ref b44)])
                  obtain ⟨cq67, kq67, q67a, q67b, q67c⟩ := isOf hZ e60 f55_80
                  obtain ⟨v67, _, ⟨T67, L67, k67, n67⟩, -, X67, ⟨Lc67, hQ67, l67, y67, z67⟩, st67⟩ := X60.virtualBack hx (y := (⟨"com/example/kwerx/kwerx/index/IntList", "get", "(I)I"⟩ : MethodName)) (z := (⟨"com/example/kwerx/kwerx/index/IntList", "get", "(I)I"⟩ : MethodName)) hown (mvT hZ (hw _ (List.mem_of_getElem? (i := 33) rfl))) (mvT hZ (hw _ (List.mem_of_getElem? (i := 34) rfl))) (notFace_of_selects (args := #[]) (mvT hZ (hw _ (List.mem_of_getElem? (i := 36) rfl)))) (mvT hZ (hw _ (List.mem_of_getElem? (i := 36) rfl))) (mvT hZ (hw _ (List.mem_of_getElem? (i := 35) rfl))) (by decide) (backOf (W := 0) (rm_ilget l Z a0 hw [] b44 (2 : Int32) bb kk (8 : Int32) vs v2 h54 n0 Z56 fv54 f55_81 (by decide) (by decide) (hv2 (by have q1 := own_of_lt hc151; have q0 := own_i0; have q2 := own_i1; have q3 := own_i2; omega))) hZ (hw _ (List.mem_of_getElem? (i := 37) rfl)) (hw _ (List.mem_of_getElem? (i := 2) rfl)) (by decide) (by decide)) q67a q67c (g := (mkF mt 157 #[.val (.int a), .val (.int b), .val (.int c), .val (.int v0), .val (.int v1), .val (.int v2), .val (.int n), .val (.int t), .val (.int c), .val (.ref b44), .val (.int ex)] [(.int (2 : Int32)), (.ref b44)])) rfl (by rw [hml]; rfl) (Steps.refl _) (argsL := [(.int (2 : Int32))]) (rest := []) (lenOf pd_4 rfl) rfl (by show 2 * 0 + _ ≤ _; exact Nat.le_of_eq rfl) (hb hby at_157) (fun _ _ => ⟨rfl, e60, (by decide : 2 + 0 ≤ _), (by decide : 10 + 0 ≤ _)⟩)
                  dsimp only [Pt.U, Pt.locs, Pt.cells, Pt.slots] at X67 l67 y67 z67 st67 hQ67
                  subst y67 z67
                  replace X67 : Stand p l e _ s mt args below meth cd T67 L67 2 10 := X67
                  obtain ⟨h67, e67⟩ : ∃ z, T67.heap = z := ⟨_, rfl⟩
                  rw [e67] at hQ67
                  obtain ⟨rfl, Nq67, eh67⟩ := hQ67
                  have N67 : Fr n0 L67 := by rw [l67]; exact Fr.app N60 Nq67
                  rw [eh67] at e67
                  refine Win.tr ?_ st67
                  show Win p e below _ T67 (mkF mt 160 #[.val (.int a), .val (.int b), .val (.int c), .val (.int v0), .val (.int v1), .val (.int v2), .val (.int n), .val (.int t), .val (.int c), .val (.ref b44), .val (.int ex)] [(.int v2)])
                  refine Win.st ?_ (fun tq kq => XS.iload X67.here hx rfl (hb hby at_160) rfl kq)
                  show Win p e below _ T67 (mkF mt 162 #[.val (.int a), .val (.int b), .val (.int c), .val (.int v0), .val (.int v1), .val (.int v2), .val (.int n), .val (.int t), .val (.int c), .val (.ref b44), .val (.int ex)] [(.int v2), (.int v2)])
                  refine Win.st ?_ (fun tq kq => XS.icmpYes X67.here hx rfl (pc0 := 162) (pc' := 167) rfl (hb hby at_162) rfl (teq (rfl : v2 = v2)).1 (by decide) (by decide) kq)
                  show Win p e below _ T67 (mkF mt 167 #[.val (.int a), .val (.int b), .val (.int c), .val (.int v0), .val (.int v1), .val (.int v2), .val (.int n), .val (.int t), .val (.int c), .val (.ref b44), .val (.int ex)] [])
                  exact j8 T67 _ X67 e67 N67
                · refine Win.st ?_ (fun tq kq => XS.icmpYes X60.here hx rfl (pc0 := 151) (pc' := 167) rfl (hb hby at_151) rfl (flt hc151).2.2.2 (by decide) (by decide) kq)
                  show Win p e below _ T60 (mkF mt 167 #[.val (.int a), .val (.int b), .val (.int c), .val (.int v0), .val (.int v1), .val (.int v2), .val (.int n), .val (.int t), .val (.int c), .val (.ref b44), .val (.int ex)] [])
                  exact j8 T60 _ X60 e60 N60
              by_cases hc132 : (1 : Int32) < ex
              · refine Win.st ?_ (fun tq kq => XS.icmpNo X59.here hx rfl (hb hby at_132) rfl (tlt hc132).2.2.2 kq)
                show Win p e below _ T59 (mkF mt 135 #[.val (.int a), .val (.int b), .val (.int c), .val (.int v0), .val (.int v1), .val (.int v2), .val (.int n), .val (.int t), .val (.int c), .val (.ref b44), .val (.int ex)] [])
                refine Win.st ?_ (fun tq kq => XS.aload X59.here hx rfl (hb hby at_135) rfl rfl kq)
                show Win p e below _ T59 (mkF mt 137 #[.val (.int a), .val (.int b), .val (.int c), .val (.int v0), .val (.int v1), .val (.int v2), .val (.int n), .val (.int t), .val (.int c), .val (.ref b44), .val (.int ex)] [(.ref b44)])
                refine Win.st ?_ (fun tq kq => XS.iconst X59.here hx rfl (hb hby at_137) kq)
                show Win p e below _ T59 (mkF mt 138 #[.val (.int a), .val (.int b), .val (.int c), .val (.int v0), .val (.int v1), .val (.int v2), .val (.int n), .val (.int t), .val (.int c), .val (.ref b44), .val (.int ex)] [(.int (1 : Int32)), (.ref b44)])
                obtain ⟨cq68, kq68, q68a, q68b, q68c⟩ := isOf hZ e59 f55_80
                obtain ⟨v68, _, ⟨T68, L68, k68, n68⟩, -, X68, ⟨Lc68, hQ68, l68, y68, z68⟩, st68⟩ := X59.virtualBack hx (y := (⟨"com/example/kwerx/kwerx/index/IntList", "get", "(I)I"⟩ : MethodName)) (z := (⟨"com/example/kwerx/kwerx/index/IntList", "get", "(I)I"⟩ : MethodName)) hown (mvT hZ (hw _ (List.mem_of_getElem? (i := 33) rfl))) (mvT hZ (hw _ (List.mem_of_getElem? (i := 34) rfl))) (notFace_of_selects (args := #[]) (mvT hZ (hw _ (List.mem_of_getElem? (i := 36) rfl)))) (mvT hZ (hw _ (List.mem_of_getElem? (i := 36) rfl))) (mvT hZ (hw _ (List.mem_of_getElem? (i := 35) rfl))) (by decide) (backOf (W := 0) (rm_ilget l Z a0 hw [] b44 (1 : Int32) bb kk (8 : Int32) vs v1 h54 n0 Z56 fv54 f55_81 (by decide) (by decide) (hv1 (by have q1 := own_of_lt hc132; have q0 := own_i0; have q2 := own_i1; have q3 := own_i2; omega))) hZ (hw _ (List.mem_of_getElem? (i := 37) rfl)) (hw _ (List.mem_of_getElem? (i := 2) rfl)) (by decide) (by decide)) q68a q68c (g := (mkF mt 138 #[.val (.int a), .val (.int b), .val (.int c), .val (.int v0), .val (.int v1), .val (.int v2), .val (.int n), .val (.int t), .val (.int c), .val (.ref b44), .val (.int ex)] [(.int (1 : Int32)), (.ref b44)])) rfl (by rw [hml]; rfl) (Steps.refl _) (argsL := [(.int (1 : Int32))]) (rest := []) (lenOf pd_4 rfl) rfl (by show 2 * 0 + _ ≤ _; exact Nat.le_of_eq rfl) (hb hby at_138) (fun _ _ => ⟨rfl, e59, (by decide : 2 + 0 ≤ _), (by decide : 10 + 0 ≤ _)⟩)
                dsimp only [Pt.U, Pt.locs, Pt.cells, Pt.slots] at X68 l68 y68 z68 st68 hQ68
                subst y68 z68
                replace X68 : Stand p l e _ s mt args below meth cd T68 L68 2 10 := X68
                obtain ⟨h68, e68⟩ : ∃ z, T68.heap = z := ⟨_, rfl⟩
                rw [e68] at hQ68
                obtain ⟨rfl, Nq68, eh68⟩ := hQ68
                have N68 : Fr n0 L68 := by rw [l68]; exact Fr.app N59 Nq68
                rw [eh68] at e68
                refine Win.tr ?_ st68
                show Win p e below _ T68 (mkF mt 141 #[.val (.int a), .val (.int b), .val (.int c), .val (.int v0), .val (.int v1), .val (.int v2), .val (.int n), .val (.int t), .val (.int c), .val (.ref b44), .val (.int ex)] [(.int v1)])
                refine Win.st ?_ (fun tq kq => XS.iload X68.here hx rfl (hb hby at_141) rfl kq)
                show Win p e below _ T68 (mkF mt 143 #[.val (.int a), .val (.int b), .val (.int c), .val (.int v0), .val (.int v1), .val (.int v2), .val (.int n), .val (.int t), .val (.int c), .val (.ref b44), .val (.int ex)] [(.int v1), (.int v1)])
                refine Win.st ?_ (fun tq kq => XS.icmpYes X68.here hx rfl (pc0 := 143) (pc' := 148) rfl (hb hby at_143) rfl (teq (rfl : v1 = v1)).1 (by decide) (by decide) kq)
                show Win p e below _ T68 (mkF mt 148 #[.val (.int a), .val (.int b), .val (.int c), .val (.int v0), .val (.int v1), .val (.int v2), .val (.int n), .val (.int t), .val (.int c), .val (.ref b44), .val (.int ex)] [])
                exact j7 T68 _ X68 e68 N68
              · refine Win.st ?_ (fun tq kq => XS.icmpYes X59.here hx rfl (pc0 := 132) (pc' := 148) rfl (hb hby at_132) rfl (flt hc132).2.2.2 (by decide) (by decide) kq)
                show Win p e below _ T59 (mkF mt 148 #[.val (.int a), .val (.int b), .val (.int c), .val (.int v0), .val (.int v1), .val (.int v2), .val (.int n), .val (.int t), .val (.int c), .val (.ref b44), .val (.int ex)] [])
                exact j7 T59 _ X59 e59 N59
            by_cases hc114 : (0 : Int32) < ex
            · refine Win.st ?_ (fun tq kq => XS.ifNo X58.here hx rfl (hb hby at_114) rfl ((if0 _ _).trans (tlt hc114).2.2.2) kq)
              show Win p e below _ T58 (mkF mt 117 #[.val (.int a), .val (.int b), .val (.int c), .val (.int v0), .val (.int v1), .val (.int v2), .val (.int n), .val (.int t), .val (.int c), .val (.ref b44), .val (.int ex)] [])
              refine Win.st ?_ (fun tq kq => XS.aload X58.here hx rfl (hb hby at_117) rfl rfl kq)
              show Win p e below _ T58 (mkF mt 119 #[.val (.int a), .val (.int b), .val (.int c), .val (.int v0), .val (.int v1), .val (.int v2), .val (.int n), .val (.int t), .val (.int c), .val (.ref b44), .val (.int ex)] [(.ref b44)])
              refine Win.st ?_ (fun tq kq => XS.iconst X58.here hx rfl (hb hby at_119) kq)
              show Win p e below _ T58 (mkF mt 120 #[.val (.int a), .val (.int b), .val (.int c), .val (.int v0), .val (.int v1), .val (.int v2), .val (.int n), .val (.int t), .val (.int c), .val (.ref b44), .val (.int ex)] [(.int (0 : Int32)), (.ref b44)])
              obtain ⟨cq69, kq69, q69a, q69b, q69c⟩ := isOf hZ e58 f55_80
              obtain ⟨v69, _, ⟨T69, L69, k69, n69⟩, -, X69, ⟨Lc69, hQ69, l69, y69, z69⟩, st69⟩ := X58.virtualBack hx (y := (⟨"com/example/kwerx/kwerx/index/IntList", "get", "(I)I"⟩ : MethodName)) (z := (⟨"com/example/kwerx/kwerx/index/IntList", "get", "(I)I"⟩ : MethodName)) hown (mvT hZ (hw _ (List.mem_of_getElem? (i := 33) rfl))) (mvT hZ (hw _ (List.mem_of_getElem? (i := 34) rfl))) (notFace_of_selects (args := #[]) (mvT hZ (hw _ (List.mem_of_getElem? (i := 36) rfl)))) (mvT hZ (hw _ (List.mem_of_getElem? (i := 36) rfl))) (mvT hZ (hw _ (List.mem_of_getElem? (i := 35) rfl))) (by decide) (backOf (W := 0) (rm_ilget l Z a0 hw [] b44 (0 : Int32) bb kk (8 : Int32) vs v0 h54 n0 Z56 fv54 f55_81 (by decide) (by decide) (hv0 (by have q1 := own_of_lt hc114; have q0 := own_i0; have q2 := own_i1; have q3 := own_i2; omega))) hZ (hw _ (List.mem_of_getElem? (i := 37) rfl)) (hw _ (List.mem_of_getElem? (i := 2) rfl)) (by decide) (by decide)) q69a q69c (g := (mkF mt 120 #[.val (.int a), .val (.int b), .val (.int c), .val (.int v0), .val (.int v1), .val (.int v2), .val (.int n), .val (.int t), .val (.int c), .val (.ref b44), .val (.int ex)] [(.int (0 : Int32)), (.ref b44)])) rfl (by rw [hml]; rfl) (Steps.refl _) (argsL := [(.int (0 : Int32))]) (rest := []) (lenOf pd_4 rfl) rfl (by show 2 * 0 + _ ≤ _; exact Nat.le_of_eq rfl) (hb hby at_120) (fun _ _ => ⟨rfl, e58, (by decide : 2 + 0 ≤ _), (by decide : 10 + 0 ≤ _)⟩)
              dsimp only [Pt.U, Pt.locs, Pt.cells, Pt.slots] at X69 l69 y69 z69 st69 hQ69
              subst y69 z69
              replace X69 : Stand p l e _ s mt args below meth cd T69 L69 2 10 := X69
              obtain ⟨h69, e69⟩ : ∃ z, T69.heap = z := ⟨_, rfl⟩
              rw [e69] at hQ69
              obtain ⟨rfl, Nq69, eh69⟩ := hQ69
              have N69 : Fr n0 L69 := by rw [l69]; exact Fr.app N58 Nq69
              rw [eh69] at e69
              refine Win.tr ?_ st69
              show Win p e below _ T69 (mkF mt 123 #[.val (.int a), .val (.int b), .val (.int c), .val (.int v0), .val (.int v1), .val (.int v2), .val (.int n), .val (.int t), .val (.int c), .val (.ref b44), .val (.int ex)] [(.int v0)])
              refine Win.st ?_ (fun tq kq => XS.iloadN X69.here hx rfl (hb hby at_123) rfl kq)
              show Win p e below _ T69 (mkF mt 124 #[.val (.int a), .val (.int b), .val (.int c), .val (.int v0), .val (.int v1), .val (.int v2), .val (.int n), .val (.int t), .val (.int c), .val (.ref b44), .val (.int ex)] [(.int v0), (.int v0)])
              refine Win.st ?_ (fun tq kq => XS.icmpYes X69.here hx rfl (pc0 := 124) (pc' := 129) rfl (hb hby at_124) rfl (teq (rfl : v0 = v0)).1 (by decide) (by decide) kq)
              show Win p e below _ T69 (mkF mt 129 #[.val (.int a), .val (.int b), .val (.int c), .val (.int v0), .val (.int v1), .val (.int v2), .val (.int n), .val (.int t), .val (.int c), .val (.ref b44), .val (.int ex)] [])
              exact j6 T69 _ X69 e69 N69
            · refine Win.st ?_ (fun tq kq => XS.ifYes X58.here hx rfl (pc0 := 114) (pc' := 129) rfl (hb hby at_114) rfl ((if0 _ _).trans (flt hc114).2.2.2) (by decide) (by decide) kq)
              show Win p e below _ T58 (mkF mt 129 #[.val (.int a), .val (.int b), .val (.int c), .val (.int v0), .val (.int v1), .val (.int v2), .val (.int n), .val (.int t), .val (.int c), .val (.ref b44), .val (.int ex)] [])
              exact j6 T58 _ X58 e58 N58
          by_cases hc86 : t < n
          · refine Win.st ?_ (fun tq kq => XS.icmpNo X54.here hx rfl (hb hby at_86) rfl (tlt hc86).2.1 kq)
            show Win p e below _ T54 (mkF mt 89 #[.val (.int a), .val (.int b), .val (.int c), .val (.int v0), .val (.int v1), .val (.int v2), .val (.int n), .val (.int t), .val (.int c), .val (.ref b44), .unset] [])
            refine Win.st ?_ (fun tq kq => XS.iload X54.here hx rfl (hb hby at_89) rfl kq)
            show Win p e below _ T54 (mkF mt 91 #[.val (.int a), .val (.int b), .val (.int c), .val (.int v0), .val (.int v1), .val (.int v2), .val (.int n), .val (.int t), .val (.int c), .val (.ref b44), .unset] [(.int t)])
            refine Win.st ?_ (fun tq kq => XS.istore X54.here hx rfl (hb hby at_91) rfl (l' := #[.val (.int a), .val (.int b), .val (.int c), .val (.int v0), .val (.int v1), .val (.int v2), .val (.int n), .val (.int t), .val (.int c), .val (.ref b44), .val (.int t)]) rfl kq)
            show Win p e below _ T54 (mkF mt 93 #[.val (.int a), .val (.int b), .val (.int c), .val (.int v0), .val (.int v1), .val (.int v2), .val (.int n), .val (.int t), .val (.int c), .val (.ref b44), .val (.int t)] [])
            refine Win.st ?_ (fun tq kq => XS.goto X54.here hx rfl (pc0 := 93) (pc' := 100) rfl (hb hby at_93) (by decide) (by decide) kq)
            show Win p e below _ T54 (mkF mt 100 #[.val (.int a), .val (.int b), .val (.int c), .val (.int v0), .val (.int v1), .val (.int v2), .val (.int n), .val (.int t), .val (.int c), .val (.ref b44), .val (.int t)] [])
            exact j5 T54 _ (t) X54 e54 N54 (by have q1 := own_of_lt hc86; omega)
          · refine Win.st ?_ (fun tq kq => XS.icmpYes X54.here hx rfl (pc0 := 86) (pc' := 96) rfl (hb hby at_86) rfl (flt hc86).2.1 (by decide) (by decide) kq)
            show Win p e below _ T54 (mkF mt 96 #[.val (.int a), .val (.int b), .val (.int c), .val (.int v0), .val (.int v1), .val (.int v2), .val (.int n), .val (.int t), .val (.int c), .val (.ref b44), .unset] [])
            refine Win.st ?_ (fun tq kq => XS.iload X54.here hx rfl (hb hby at_96) rfl kq)
            show Win p e below _ T54 (mkF mt 98 #[.val (.int a), .val (.int b), .val (.int c), .val (.int v0), .val (.int v1), .val (.int v2), .val (.int n), .val (.int t), .val (.int c), .val (.ref b44), .unset] [(.int n)])
            refine Win.st ?_ (fun tq kq => XS.istore X54.here hx rfl (hb hby at_98) rfl (l' := #[.val (.int a), .val (.int b), .val (.int c), .val (.int v0), .val (.int v1), .val (.int v2), .val (.int n), .val (.int t), .val (.int c), .val (.ref b44), .val (.int n)]) rfl kq)
            show Win p e below _ T54 (mkF mt 100 #[.val (.int a), .val (.int b), .val (.int c), .val (.int v0), .val (.int v1), .val (.int v2), .val (.int n), .val (.int t), .val (.int c), .val (.ref b44), .val (.int n)] [])
            exact j5 T54 _ (n) X54 e54 N54 (by have q1 := own_of_nlt hc86; omega)
        by_cases hc65 : (2 : Int32) < n
        · refine Win.st ?_ (fun tq kq => XS.icmpNo X52.here hx rfl (hb hby at_65) rfl (tlt hc65).2.2.2 kq)
          show Win p e below _ T52 (mkF mt 68 #[.val (.int a), .val (.int b), .val (.int c), .val (.int v0), .val (.int v1), .val (.int v2), .val (.int n), .val (.int t), .val (.int c), .val (.ref b44), .unset] [])
          refine Win.st ?_ (fun tq kq => XS.aload X52.here hx rfl (hb hby at_68) rfl rfl kq)
          show Win p e below _ T52 (mkF mt 70 #[.val (.int a), .val (.int b), .val (.int c), .val (.int v0), .val (.int v1), .val (.int v2), .val (.int n), .val (.int t), .val (.int c), .val (.ref b44), .unset] [(.ref b44)])
          refine Win.st ?_ (fun tq kq => XS.iload X52.here hx rfl (hb hby at_70) rfl kq)
          show Win p e below _ T52 (mkF mt 72 #[.val (.int a), .val (.int b), .val (.int c), .val (.int v0), .val (.int v1), .val (.int v2), .val (.int n), .val (.int t), .val (.int c), .val (.ref b44), .unset] [(.int v2), (.ref b44)])
          obtain ⟨cq70, kq70, q70a, q70b, q70c⟩ := isOf hZ e52 f52_0
          obtain ⟨v70, _, ⟨T70, L70, k70, n70⟩, -, X70, ⟨Lc70, hQ70, l70, y70, z70⟩, st70⟩ := X52.virtualBack hx (y := (⟨"com/example/kwerx/kwerx/index/IntList", "add", "(I)V"⟩ : MethodName)) (z := (⟨"com/example/kwerx/kwerx/index/IntList", "add", "(I)V"⟩ : MethodName)) hown (mvT hZ (hw _ (List.mem_of_getElem? (i := 28) rfl))) (mvT hZ (hw _ (List.mem_of_getElem? (i := 29) rfl))) (notFace_of_selects (args := #[]) (mvT hZ (hw _ (List.mem_of_getElem? (i := 31) rfl)))) (mvT hZ (hw _ (List.mem_of_getElem? (i := 31) rfl))) (mvT hZ (hw _ (List.mem_of_getElem? (i := 30) rfl))) (by decide) (backOf (W := 0) (rm_iladd l Z a0 hw [] b44 v2 bb kk (8 : Int32) sz vs h52 n0 Z52 f52_0 f52_2 f52_1 f52_3 (own_nlt (by rw [own_i0]; omega)) (own_lt (by rw [own_i8]; omega)) (by have := own_clamp (x := sz) (by omega); omega) g45 gb nab) hZ (hw _ (List.mem_of_getElem? (i := 32) rfl)) (hw _ (List.mem_of_getElem? (i := 2) rfl)) (by decide) (by decide)) q70a q70c (g := (mkF mt 72 #[.val (.int a), .val (.int b), .val (.int c), .val (.int v0), .val (.int v1), .val (.int v2), .val (.int n), .val (.int t), .val (.int c), .val (.ref b44), .unset] [(.int v2), (.ref b44)])) rfl (by rw [hml]; rfl) (Steps.refl _) (argsL := [(.int v2)]) (rest := []) (lenOf pd_2 rfl) rfl (by show 2 * 0 + _ ≤ _; exact Nat.le_of_eq rfl) (hb hby at_72) (fun _ _ => ⟨rfl, e52, (by decide : 2 + 0 ≤ _), (by decide : 10 + 0 ≤ _)⟩)
          dsimp only [Pt.U, Pt.locs, Pt.cells, Pt.slots] at X70 l70 y70 z70 st70 hQ70
          subst y70 z70
          replace X70 : Stand p l e _ s mt args below meth cd T70 L70 2 10 := X70
          obtain ⟨h70, e70⟩ : ∃ z, T70.heap = z := ⟨_, rfl⟩
          rw [e70] at hQ70
          obtain ⟨rfl, Nq70, K70, fv70, fs70, V70⟩ := hQ70
          have N70 : Fr n0 L70 := by rw [l70]; exact Fr.app N52 Nq70
          have f71_306 := f52_0.keep K70
          have Z72 : n0 ≤ h70.size := Nat.le_trans Z52 K70.1
          refine Win.tr ?_ st70
          show Win p e below _ T70 (mkF mt 75 #[.val (.int a), .val (.int b), .val (.int c), .val (.int v0), .val (.int v1), .val (.int v2), .val (.int n), .val (.int t), .val (.int c), .val (.ref b44), .unset] [])
          exact j3 T70 h70 _ ((sz + (1 : Int32))) ((vs.set sz.toNatClampNeg (.int v2))) X70 e70 N70 Z72 (by rw [List.length_set]; exact hl) (by have q1 := own_of_lt hc65; have q0 := own_i0; have q2 := own_i1; have q3 := own_i2; rw [own_inc (by omega) (by omega)]; omega) (fun hi => by have q1 := own_of_lt hc65; have q0 := own_i0; have q2 := own_i1; have q3 := own_i2; have q4 := own_clamp (x := sz) (by omega); rw [own_set_ne (by omega)]; exact hv0 hi) (fun hi => by have q1 := own_of_lt hc65; have q0 := own_i0; have q2 := own_i1; have q3 := own_i2; have q4 := own_clamp (x := sz) (by omega); rw [own_set_ne (by omega)]; exact hv1 hi) (fun hi => by have q1 := own_of_lt hc65; have q0 := own_i0; have q2 := own_i1; have q3 := own_i2; have q4 := own_clamp (x := sz) (by omega); rw [show sz.toNatClampNeg = 2 by omega]; exact own_set_same (by omega)) f71_306 fs70 fv70 V70
        · refine Win.st ?_ (fun tq kq => XS.icmpYes X52.here hx rfl (pc0 := 65) (pc' := 75) rfl (hb hby at_65) rfl (flt hc65).2.2.2 (by decide) (by decide) kq)
          show Win p e below _ T52 (mkF mt 75 #[.val (.int a), .val (.int b), .val (.int c), .val (.int v0), .val (.int v1), .val (.int v2), .val (.int n), .val (.int t), .val (.int c), .val (.ref b44), .unset] [])
          exact j3 T52 h52 _ (sz) (vs) X52 e52 N52 Z52 (hl) (by have q1 := own_of_nlt hc65; have q0 := own_i0; have q2 := own_i1; have q3 := own_i2; omega) (hv0) (hv1) (fun hi => absurd hi (by have q1 := own_of_nlt hc65; have q0 := own_i0; have q2 := own_i1; have q3 := own_i2; omega)) f52_0 f52_1 f52_2 f52_3
      by_cases hc52 : (1 : Int32) < n
      · refine Win.st ?_ (fun tq kq => XS.icmpNo X51.here hx rfl (hb hby at_52) rfl (tlt hc52).2.2.2 kq)
        show Win p e below _ T51 (mkF mt 55 #[.val (.int a), .val (.int b), .val (.int c), .val (.int v0), .val (.int v1), .val (.int v2), .val (.int n), .val (.int t), .val (.int c), .val (.ref b44), .unset] [])
        refine Win.st ?_ (fun tq kq => XS.aload X51.here hx rfl (hb hby at_55) rfl rfl kq)
        show Win p e below _ T51 (mkF mt 57 #[.val (.int a), .val (.int b), .val (.int c), .val (.int v0), .val (.int v1), .val (.int v2), .val (.int n), .val (.int t), .val (.int c), .val (.ref b44), .unset] [(.ref b44)])
        refine Win.st ?_ (fun tq kq => XS.iload X51.here hx rfl (hb hby at_57) rfl kq)
        show Win p e below _ T51 (mkF mt 59 #[.val (.int a), .val (.int b), .val (.int c), .val (.int v0), .val (.int v1), .val (.int v2), .val (.int n), .val (.int t), .val (.int c), .val (.ref b44), .unset] [(.int v1), (.ref b44)])
        obtain ⟨cq73, kq73, q73a, q73b, q73c⟩ := isOf hZ e51 f51_0
        obtain ⟨v73, _, ⟨T73, L73, k73, n73⟩, -, X73, ⟨Lc73, hQ73, l73, y73, z73⟩, st73⟩ := X51.virtualBack hx (y := (⟨"com/example/kwerx/kwerx/index/IntList", "add", "(I)V"⟩ : MethodName)) (z := (⟨"com/example/kwerx/kwerx/index/IntList", "add", "(I)V"⟩ : MethodName)) hown (mvT hZ (hw _ (List.mem_of_getElem? (i := 28) rfl))) (mvT hZ (hw _ (List.mem_of_getElem? (i := 29) rfl))) (notFace_of_selects (args := #[]) (mvT hZ (hw _ (List.mem_of_getElem? (i := 31) rfl)))) (mvT hZ (hw _ (List.mem_of_getElem? (i := 31) rfl))) (mvT hZ (hw _ (List.mem_of_getElem? (i := 30) rfl))) (by decide) (backOf (W := 0) (rm_iladd l Z a0 hw [] b44 v1 bb kk (8 : Int32) sz vs h51 n0 Z51 f51_0 f51_2 f51_1 f51_3 (own_nlt (by rw [own_i0]; omega)) (own_lt (by rw [own_i8]; omega)) (by have := own_clamp (x := sz) (by omega); omega) g45 gb nab) hZ (hw _ (List.mem_of_getElem? (i := 32) rfl)) (hw _ (List.mem_of_getElem? (i := 2) rfl)) (by decide) (by decide)) q73a q73c (g := (mkF mt 59 #[.val (.int a), .val (.int b), .val (.int c), .val (.int v0), .val (.int v1), .val (.int v2), .val (.int n), .val (.int t), .val (.int c), .val (.ref b44), .unset] [(.int v1), (.ref b44)])) rfl (by rw [hml]; rfl) (Steps.refl _) (argsL := [(.int v1)]) (rest := []) (lenOf pd_2 rfl) rfl (by show 2 * 0 + _ ≤ _; exact Nat.le_of_eq rfl) (hb hby at_59) (fun _ _ => ⟨rfl, e51, (by decide : 2 + 0 ≤ _), (by decide : 10 + 0 ≤ _)⟩)
        dsimp only [Pt.U, Pt.locs, Pt.cells, Pt.slots] at X73 l73 y73 z73 st73 hQ73
        subst y73 z73
        replace X73 : Stand p l e _ s mt args below meth cd T73 L73 2 10 := X73
        obtain ⟨h73, e73⟩ : ∃ z, T73.heap = z := ⟨_, rfl⟩
        rw [e73] at hQ73
        obtain ⟨rfl, Nq73, K73, fv73, fs73, V73⟩ := hQ73
        have N73 : Fr n0 L73 := by rw [l73]; exact Fr.app N51 Nq73
        have f74_330 := f51_0.keep K73
        have Z75 : n0 ≤ h73.size := Nat.le_trans Z51 K73.1
        refine Win.tr ?_ st73
        show Win p e below _ T73 (mkF mt 62 #[.val (.int a), .val (.int b), .val (.int c), .val (.int v0), .val (.int v1), .val (.int v2), .val (.int n), .val (.int t), .val (.int c), .val (.ref b44), .unset] [])
        exact j2 T73 h73 _ ((sz + (1 : Int32))) ((vs.set sz.toNatClampNeg (.int v1))) X73 e73 N73 Z75 (by rw [List.length_set]; exact hl) (by have q1 := own_of_lt hc52; have q0 := own_i0; have q2 := own_i1; have q3 := own_i2; rw [own_inc (by omega) (by omega)]; omega) (fun hi => by have q1 := own_of_lt hc52; have q0 := own_i0; have q2 := own_i1; have q3 := own_i2; have q4 := own_clamp (x := sz) (by omega); rw [own_set_ne (by omega)]; exact hv0 hi) (fun hi => by have q1 := own_of_lt hc52; have q0 := own_i0; have q2 := own_i1; have q3 := own_i2; have q4 := own_clamp (x := sz) (by omega); rw [show sz.toNatClampNeg = 1 by omega]; exact own_set_same (by omega)) f74_330 fs73 fv73 V73
      · refine Win.st ?_ (fun tq kq => XS.icmpYes X51.here hx rfl (pc0 := 52) (pc' := 62) rfl (hb hby at_52) rfl (flt hc52).2.2.2 (by decide) (by decide) kq)
        show Win p e below _ T51 (mkF mt 62 #[.val (.int a), .val (.int b), .val (.int c), .val (.int v0), .val (.int v1), .val (.int v2), .val (.int n), .val (.int t), .val (.int c), .val (.ref b44), .unset] [])
        exact j2 T51 h51 _ (sz) (vs) X51 e51 N51 Z51 (hl) (by have q1 := own_of_nlt hc52; have q0 := own_i0; have q2 := own_i1; have q3 := own_i2; omega) (hv0) (fun hi => absurd hi (by have q1 := own_of_nlt hc52; have q0 := own_i0; have q2 := own_i1; have q3 := own_i2; omega)) f51_0 f51_1 f51_2 f51_3
    by_cases hc40 : (0 : Int32) < n
    · refine Win.st ?_ (fun tq kq => XS.ifNo X48.here hx rfl (hb hby at_40) rfl ((if0 _ _).trans (tlt hc40).2.2.2) kq)
      show Win p e below _ T48 (mkF mt 43 #[.val (.int a), .val (.int b), .val (.int c), .val (.int v0), .val (.int v1), .val (.int v2), .val (.int n), .val (.int t), .val (.int c), .val (.ref b44), .unset] [])
      refine Win.st ?_ (fun tq kq => XS.aload X48.here hx rfl (hb hby at_43) rfl rfl kq)
      show Win p e below _ T48 (mkF mt 45 #[.val (.int a), .val (.int b), .val (.int c), .val (.int v0), .val (.int v1), .val (.int v2), .val (.int n), .val (.int t), .val (.int c), .val (.ref b44), .unset] [(.ref b44)])
      refine Win.st ?_ (fun tq kq => XS.iloadN X48.here hx rfl (hb hby at_45) rfl kq)
      show Win p e below _ T48 (mkF mt 46 #[.val (.int a), .val (.int b), .val (.int c), .val (.int v0), .val (.int v1), .val (.int v2), .val (.int n), .val (.int t), .val (.int c), .val (.ref b44), .unset] [(.int v0), (.ref b44)])
      obtain ⟨cq76, kq76, q76a, q76b, q76c⟩ := isOf hZ e48 f49_45
      obtain ⟨v76, _, ⟨T76, L76, k76, n76⟩, -, X76, ⟨Lc76, hQ76, l76, y76, z76⟩, st76⟩ := X48.virtualBack hx (y := (⟨"com/example/kwerx/kwerx/index/IntList", "add", "(I)V"⟩ : MethodName)) (z := (⟨"com/example/kwerx/kwerx/index/IntList", "add", "(I)V"⟩ : MethodName)) hown (mvT hZ (hw _ (List.mem_of_getElem? (i := 28) rfl))) (mvT hZ (hw _ (List.mem_of_getElem? (i := 29) rfl))) (notFace_of_selects (args := #[]) (mvT hZ (hw _ (List.mem_of_getElem? (i := 31) rfl)))) (mvT hZ (hw _ (List.mem_of_getElem? (i := 31) rfl))) (mvT hZ (hw _ (List.mem_of_getElem? (i := 30) rfl))) (by decide) (backOf (W := 0) (rm_iladd l Z a0 hw [] b44 v0 bb kk (8 : Int32) (0 : Int32) (List.replicate 8 (.int (0 : Int32))) h48 n0 Z50 f49_45 fv48 fs48 V48 (by decide) (by decide) (by decide) g45 gb nab) hZ (hw _ (List.mem_of_getElem? (i := 32) rfl)) (hw _ (List.mem_of_getElem? (i := 2) rfl)) (by decide) (by decide)) q76a q76c (g := (mkF mt 46 #[.val (.int a), .val (.int b), .val (.int c), .val (.int v0), .val (.int v1), .val (.int v2), .val (.int n), .val (.int t), .val (.int c), .val (.ref b44), .unset] [(.int v0), (.ref b44)])) rfl (by rw [hml]; rfl) (Steps.refl _) (argsL := [(.int v0)]) (rest := []) (lenOf pd_2 rfl) rfl (by show 2 * 0 + _ ≤ _; exact Nat.le_of_eq rfl) (hb hby at_46) (fun _ _ => ⟨rfl, e48, (by decide : 2 + 0 ≤ _), (by decide : 10 + 0 ≤ _)⟩)
      dsimp only [Pt.U, Pt.locs, Pt.cells, Pt.slots] at X76 l76 y76 z76 st76 hQ76
      subst y76 z76
      replace X76 : Stand p l e _ s mt args below meth cd T76 L76 2 10 := X76
      obtain ⟨h76, e76⟩ : ∃ z, T76.heap = z := ⟨_, rfl⟩
      rw [e76] at hQ76
      obtain ⟨rfl, Nq76, K76, fv76, fs76, V76⟩ := hQ76
      have N76 : Fr n0 L76 := by rw [l76]; exact Fr.app N48 Nq76
      have f77_354 := f49_45.keep K76
      have Z78 : n0 ≤ h76.size := Nat.le_trans Z50 K76.1
      refine Win.tr ?_ st76
      show Win p e below _ T76 (mkF mt 49 #[.val (.int a), .val (.int b), .val (.int c), .val (.int v0), .val (.int v1), .val (.int v2), .val (.int n), .val (.int t), .val (.int c), .val (.ref b44), .unset] [])
      exact j1 T76 h76 _ (((0 : Int32) + (1 : Int32))) (((List.replicate 8 (.int (0 : Int32))).set (0 : Int32).toNatClampNeg (.int v0))) X76 e76 N76 Z78 (rfl) (by have q1 := own_of_lt hc40; have q0 := own_i0; have q2 := own_i1; have q3 := own_i2; rw [show ((0 : Int32) + (1 : Int32)).toInt = 1 from by decide]; omega) (fun _ => by rw [show (0 : Int32).toNatClampNeg = 0 from by decide]; rfl) f77_354 fs76 fv76 V76
    · refine Win.st ?_ (fun tq kq => XS.ifYes X48.here hx rfl (pc0 := 40) (pc' := 49) rfl (hb hby at_40) rfl ((if0 _ _).trans (flt hc40).2.2.2) (by decide) (by decide) kq)
      show Win p e below _ T48 (mkF mt 49 #[.val (.int a), .val (.int b), .val (.int c), .val (.int v0), .val (.int v1), .val (.int v2), .val (.int n), .val (.int t), .val (.int c), .val (.ref b44), .unset] [])
      exact j1 T48 h48 _ ((0 : Int32)) ((List.replicate 8 (.int (0 : Int32)))) X48 e48 N48 Z50 (rfl) (by have q1 := own_of_nlt hc40; have q0 := own_i0; have q2 := own_i1; have q3 := own_i2; omega) (fun hi => absurd hi (by have q1 := own_of_nlt hc40; have q0 := own_i0; have q2 := own_i1; have q3 := own_i2; omega)) f49_45 fs48 fv48 V48
  by_cases hc8 : (c &&& (1 : Int32)) = (0 : Int32)
  · refine Win.st ?_ (fun tq kq => XS.ifYes X0.here hx rfl (pc0 := 8) (pc' := 20) rfl (hb hby at_8) rfl ((if0 _ _).trans (teq hc8).1) (by decide) (by decide) kq)
    show Win p e below _ s₁ (mkF mt 20 #[.val (.int a), .val (.int b), .val (.int c), .val (.int v0), .val (.int v1), .val (.int v2), .val (.int n), .unset, .unset, .unset, .unset] [])
    refine Win.st ?_ (fun tq kq => XS.iloadN X0.here hx rfl (hb hby at_20) rfl kq)
    show Win p e below _ s₁ (mkF mt 21 #[.val (.int a), .val (.int b), .val (.int c), .val (.int v0), .val (.int v1), .val (.int v2), .val (.int n), .unset, .unset, .unset, .unset] [(.int b)])
    refine Win.st ?_ (fun tq kq => XS.bipush X0.here hx rfl (hb hby at_21) kq)
    show Win p e below _ s₁ (mkF mt 23 #[.val (.int a), .val (.int b), .val (.int c), .val (.int v0), .val (.int v1), .val (.int v2), .val (.int n), .unset, .unset, .unset, .unset] [(.int (7 : Int32)), (.int b)])
    refine Win.st ?_ (fun tq kq => XS.iand X0.here hx rfl (hb hby at_23) rfl kq)
    show Win p e below _ s₁ (mkF mt 24 #[.val (.int a), .val (.int b), .val (.int c), .val (.int v0), .val (.int v1), .val (.int v2), .val (.int n), .unset, .unset, .unset, .unset] [(.int (b &&& (7 : Int32)))])
    refine Win.st ?_ (fun tq kq => XS.istore X0.here hx rfl (hb hby at_24) rfl (l' := #[.val (.int a), .val (.int b), .val (.int c), .val (.int v0), .val (.int v1), .val (.int v2), .val (.int n), .val (.int (b &&& (7 : Int32))), .unset, .unset, .unset]) rfl kq)
    show Win p e below _ s₁ (mkF mt 26 #[.val (.int a), .val (.int b), .val (.int c), .val (.int v0), .val (.int v1), .val (.int v2), .val (.int n), .val (.int (b &&& (7 : Int32))), .unset, .unset, .unset] [])
    exact jt s₁ _ ((b &&& (7 : Int32))) X0 e0 N0 (by have q := c_mask b 7 3 (by decide) (by decide); omega)
  · refine Win.st ?_ (fun tq kq => XS.ifNo X0.here hx rfl (hb hby at_8) rfl ((if0 _ _).trans (feq hc8).1) kq)
    show Win p e below _ s₁ (mkF mt 11 #[.val (.int a), .val (.int b), .val (.int c), .val (.int v0), .val (.int v1), .val (.int v2), .val (.int n), .unset, .unset, .unset, .unset] [])
    refine Win.st ?_ (fun tq kq => XS.iloadN X0.here hx rfl (hb hby at_11) rfl kq)
    show Win p e below _ s₁ (mkF mt 12 #[.val (.int a), .val (.int b), .val (.int c), .val (.int v0), .val (.int v1), .val (.int v2), .val (.int n), .unset, .unset, .unset, .unset] [(.int b)])
    refine Win.st ?_ (X0.ldcInt hx hown (mvT hZ (hw _ (List.mem_of_getElem? (i := 38) rfl))) (g := (mkF mt 12 #[.val (.int a), .val (.int b), .val (.int c), .val (.int v0), .val (.int v1), .val (.int v2), .val (.int n), .unset, .unset, .unset, .unset] [(.int b)])) rfl (hb hby at_12))
    show Win p e below _ s₁ (mkF mt 14 #[.val (.int a), .val (.int b), .val (.int c), .val (.int v0), .val (.int v1), .val (.int v2), .val (.int n), .unset, .unset, .unset, .unset] [(.int (2147483647 : Int32)), (.int b)])
    refine Win.st ?_ (fun tq kq => XS.iand X0.here hx rfl (hb hby at_14) rfl kq)
    show Win p e below _ s₁ (mkF mt 15 #[.val (.int a), .val (.int b), .val (.int c), .val (.int v0), .val (.int v1), .val (.int v2), .val (.int n), .unset, .unset, .unset, .unset] [(.int (b &&& (2147483647 : Int32)))])
    refine Win.st ?_ (fun tq kq => XS.istore X0.here hx rfl (hb hby at_15) rfl (l' := #[.val (.int a), .val (.int b), .val (.int c), .val (.int v0), .val (.int v1), .val (.int v2), .val (.int n), .val (.int (b &&& (2147483647 : Int32))), .unset, .unset, .unset]) rfl kq)
    show Win p e below _ s₁ (mkF mt 17 #[.val (.int a), .val (.int b), .val (.int c), .val (.int v0), .val (.int v1), .val (.int v2), .val (.int n), .val (.int (b &&& (2147483647 : Int32))), .unset, .unset, .unset] [])
    refine Win.st ?_ (fun tq kq => XS.goto X0.here hx rfl (pc0 := 17) (pc' := 26) rfl (hb hby at_17) (by decide) (by decide) kq)
    show Win p e below _ s₁ (mkF mt 26 #[.val (.int a), .val (.int b), .val (.int c), .val (.int v0), .val (.int v1), .val (.int v2), .val (.int n), .val (.int (b &&& (2147483647 : Int32))), .unset, .unset, .unset] [])
    exact jt s₁ _ ((b &&& (2147483647 : Int32))) X0 e0 N0 (by have q := c_mask b 2147483647 31 (by decide) (by decide); omega)
set_option maxRecDepth 65536 in
set_option maxHeartbeats 40000000 in
theorem comes_1 {Post : Tables → Env → Array Value → State → Outcome → State → Prop} (hpost : ∀ tb e args s v u, (limb_1_1.after args s (.returned v) u = true ∧ limb_1_2.after args s (.returned v) u = true ∧ True) → FrameEnd s (.returned v) u (Jvm.fieldLocs frame_1_writes args s ++ Jvm.arrayLocs frame_1_arrays args s ++ Jvm.staticLocs frame_1_statics s) 16 128 → Post tb e args s (.returned v) u) :
    ArmFor flags0 classFile x code maxLocals ret World_1 tables_1 room_1 Calls_1 rest_1 Pre_1 Post := by
  intro l hfl _ _ p e ha hc hk s m args below hf hA hF happ hP
  obtain ⟨hcalls, hrest, hpre⟩ := hP
  obtain ⟨-, -, -, hnamed, -, -, -, hat⟩ := (Spec.applies_iff hf).mp happ
  obtain ⟨hg, hn⟩ := and_e (Cond.before_iff.mp (show (Jvm.Cond.and given_1 narrow_1).before args s = true from hpre))
  obtain ⟨ga0, gb0⟩ := and_e hg
  obtain ⟨ga1, gb1⟩ := and_e gb0
  obtain ⟨ga2, gb2⟩ := and_e gb1
  obtain ⟨ga3, gb3⟩ := and_e gb2
  obtain ⟨ga4, gb4⟩ := and_e gb3
  obtain ⟨ga5, gb5⟩ := and_e gb4
  obtain ⟨w0, w1, w2, w3, w4, w5, rfl⟩ : ∃ w0 w1 w2 w3 w4 w5 : Value, args = #[w0, w1, w2, w3, w4, w5] := by
    have hs : args.size = 6 := by simpa [Cond.value, given_1] using ga0
    obtain ⟨L⟩ := args
    match L, hs with
    | [w0, w1, w2, w3, w4, w5], _ => exact ⟨w0, w1, w2, w3, w4, w5, rfl⟩
  have hw := fun d (hd : d ∈ tables_1) => atoms_spec (ws := Jvm.Cond.code x code maxLocals ret :: tables_1) hat d (List.mem_cons_of_mem _ hd)
  have hfit : Fit s := fun {y c} hc i hi => by
    obtain ⟨ha, rfl⟩ := Array.getElem?_eq_some_iff.mp hc
    have q := List.all_eq_true.mp ((Array.all_eq_true_iff_forall_mem.mp hF) _ (Array.getElem_mem ha)) i (List.mem_range.mpr hi)
    simpa [Array.getElem?_eq_getElem hi] using q
  obtain ⟨i0, ei0⟩ := is_v ga1
  obtain rfl : w0 = (.int i0) := Option.some.inj ei0
  obtain ⟨i1, ei1⟩ := is_v ga2
  obtain rfl : w1 = (.int i1) := Option.some.inj ei1
  obtain ⟨i2, ei2⟩ := is_v ga3
  obtain rfl : w2 = (.int i2) := Option.some.inj ei2
  obtain ⟨i3, ei3⟩ := is_v ga4
  obtain rfl : w3 = (.int i3) := Option.some.inj ei3
  obtain ⟨i4, ei4⟩ := is_v ga5
  obtain rfl : w4 = (.int i4) := Option.some.inj ei4
  obtain ⟨i5, ei5⟩ := is_v gb5
  obtain rfl : w5 = (.int i5) := Option.some.inj ei5
  obtain ⟨n, o, h1, h2, h3, _, L, rfl, ⟨rfl, N⟩, hq⟩ := rm_law l s _ hw tables_1 i0 i1 i2 i3 i4 i5  s.heap s.heap.size (Nat.le_refl _)  p e ha hc hk s m _ below hf ((Spec.applies_iff_loose hf).mp happ).1 ⟨rfl, State.Warmed39.refl s, rfl⟩ trivial
  refine ⟨n, _, h1, h2, h3, hpost _ _ _ _ _ _ ⟨Cond.after_iff.mpr rfl, Cond.after_iff.mpr (eq_i res_at (Term.int_eval (1)) rfl), trivial⟩ ⟨hq.1, hq.2.1, (hq.2.2.sift fun y hy => Or.inr (N y hy)).mono (by decide) (by decide)⟩⟩
theorem main_1_1 : Claimed_1_1 := comes_1 fun _ _ _ _ _ _ h hF => ⟨h.1, hF⟩
theorem main_1_2 : Claimed_1_2 := comes_1 fun _ _ _ _ _ _ h hF => ⟨h.2.1, hF⟩
end Jvm.Pilot.@@N@@
namespace Jvm.Pilot.@@N@@
open Jvm Jvm.ClassFile Sem Op Lib Jvm.Free Jvm.Stand Jvm.Pilot.@@N@@.Jvm.D
/-! MADE BY PROGRAM (witnessworld.py) out of the Statement's table words and the real class files: 10 classes; the members and pool entries that the words name. The judged class is class 1, her method 1. -/
namespace start1
open Jvm.ClassFile
def u (s : String) : CpInfo := .utf8 (stringToUtf16 s)
/-- a pool by its gaps: so many unusable entries, then the entry; so many at the end -/
def gap : Nat → List CpInfo → List CpInfo
  | 0, r => r
  | n + 1, r => .unusable :: gap n r
def poolList (es : List (Nat × CpInfo)) (last : Nat) : List CpInfo := es.foldr (fun e r => gap e.1 (e.2 :: r)) (gap last [])
def pool (es : List (Nat × CpInfo)) (last : Nat) : Array CpInfo := ⟨poolList es last⟩
def fileOf (pool : Array CpInfo) (this : Nat) (attrs : Array Attribute := #[]) (ms : Array MethodInfo := #[]) (fl : Nat := 33) (sup : Nat := 0) (ifs : Array Nat := #[]) (fds : Array FieldInfo := #[]) : ClassFile where
  minorVersion := 0
  majorVersion := 65
  constantPool := pool
  accessFlags := fl
  thisClass := this
  superClass := sup
  interfaces := ifs
  fields := fds
  methods := ms
  attributes := attrs
def plain (name : String) (sup : Option ClassId) : Class where
  name := name
  kind := .ordinary
  loader := none
  accessFlags := 33
  super := sup
  interfaces := #[]
  cf := none
  fields := #[]
  methods := #[]
  instanceTypes := #[]
  staticTypes := #[]
  resolved := #[]
  callSites := []
  init := .initialized
  statics := none
  mirror := none

def pool0 : Array CpInfo := pool [(5, u "<init>"), (0, u "()V"), (1, .class_ 10), (1, u "java/lang/Object")] 113

def k0c0 : Code := { maxStack := 0, maxLocals := 1, code := object_method_1_code, exceptionTable := #[], attributes := #[] }
def k0m0 : Method := { name := "<init>", desc := "()V", sig := { parameters := [], returnType := none }, accessFlags := 1, code := some k0c0 }
/-- java/lang/Object -/
def k0 : Class := { plain "java/lang/Object" none with
  accessFlags := 33
  interfaces := #[]
  cf := some (fileOf pool0 8 #[] #[{ accessFlags := 1, nameIndex := 5, descriptorIndex := 6, attributes := #[] }] 33 0 #[] #[])
  fields := #[]
  methods := #[k0m0]
  instanceTypes := #[]
  staticTypes := #[]
  resolved := Array.replicate 124 none
  statics := none }

def pool1 : Array CpInfo := pool [(2, .class_ 4), (0, .nameAndType 5 6), (0, u "java/lang/Object"), (0, u "<init>"), (0, u "()V"), (0, .integer 2147483647), (0, .class_ 9), (0, u "com/example/kwerx/kwerx/index/IntList"), (0, .methodref 8 3), (0, .methodref 8 12), (0, .nameAndType 13 14), (0, u "add"), (0, u "(I)V"), (0, .methodref 8 16), (0, .nameAndType 17 14), (0, u "truncate"), (0, .methodref 8 19), (0, .nameAndType 20 21), (0, u "size"), (0, u "()I"), (0, .methodref 8 23), (0, .nameAndType 24 25), (0, u "get"), (0, u "(I)I"), (0, .class_ 27), (0, u "com/example/kwerx/kwerx/index/IntListTruncatePinLaw"), (2, u "law"), (0, u "(IIIIII)Z")] 3

def k1m0 : Method := { name := "<init>", desc := "()V", sig := { parameters := [], returnType := none }, accessFlags := 1, code := none }
def k1c1 : Code := { maxStack := 3, maxLocals := 11, code := code, exceptionTable := #[], attributes := #[] }
def k1m1 : Method := { name := "law", desc := "(IIIIII)Z", sig := { parameters := [.int, .int, .int, .int, .int, .int], returnType := some .boolean }, accessFlags := 9, code := some k1c1 }
/-- com/example/kwerx/kwerx/index/IntListTruncatePinLaw -/
def k1 : Class := { plain "com/example/kwerx/kwerx/index/IntListTruncatePinLaw" (some 0) with
  accessFlags := 49
  interfaces := #[]
  cf := some (fileOf pool1 26 #[] #[{ accessFlags := 1, nameIndex := 5, descriptorIndex := 6, attributes := #[] }, { accessFlags := 9, nameIndex := 30, descriptorIndex := 31, attributes := #[] }] 49 2 #[] #[])
  fields := #[]
  methods := #[k1m0, k1m1]
  instanceTypes := #[]
  staticTypes := #[]
  resolved := Array.replicate 35 none
  statics := none }

def pool2 : Array CpInfo := pool [(1, .methodref 2 3), (0, .class_ 4), (0, .nameAndType 5 6), (0, u "java/lang/Object"), (0, u "<init>"), (0, u "()V"), (0, .fieldref 8 9), (0, .class_ 10), (0, .nameAndType 11 12), (0, u "com/example/kwerx/kwerx/index/IntList"), (0, u "values"), (0, u "[I"), (0, .fieldref 8 14), (0, .nameAndType 15 16), (0, u "size"), (0, u "I"), (6, .methodref 24 25), (0, .class_ 26), (0, .nameAndType 27 28), (0, u "java/lang/Math"), (0, u "min"), (0, u "(II)I"), (2, u "add"), (0, u "(I)V"), (1, u "get"), (0, u "(I)I"), (2, u "truncate"), (0, u "()I")] 2

def k2c0 : Code := { maxStack := 2, maxLocals := 1, code := prog_51_method_1_code, exceptionTable := #[], attributes := #[] }
def k2m0 : Method := { name := "<init>", desc := "()V", sig := { parameters := [], returnType := none }, accessFlags := 0, code := some k2c0 }
def k2c1 : Code := { maxStack := 5, maxLocals := 2, code := prog_51_method_2_code, exceptionTable := #[], attributes := #[] }
def k2m1 : Method := { name := "add", desc := "(I)V", sig := { parameters := [.int], returnType := none }, accessFlags := 0, code := some k2c1 }
def k2c2 : Code := { maxStack := 2, maxLocals := 2, code := prog_51_method_3_code, exceptionTable := #[], attributes := #[] }
def k2m2 : Method := { name := "get", desc := "(I)I", sig := { parameters := [.int], returnType := some .int }, accessFlags := 0, code := some k2c2 }
def k2c3 : Code := { maxStack := 3, maxLocals := 2, code := prog_51_method_5_code, exceptionTable := #[], attributes := #[] }
def k2m3 : Method := { name := "truncate", desc := "(I)V", sig := { parameters := [.int], returnType := none }, accessFlags := 0, code := some k2c3 }
def k2c4 : Code := { maxStack := 1, maxLocals := 1, code := prog_51_method_6_code, exceptionTable := #[], attributes := #[] }
def k2m4 : Method := { name := "size", desc := "()I", sig := { parameters := [], returnType := some .int }, accessFlags := 0, code := some k2c4 }
/-- com/example/kwerx/kwerx/index/IntList -/
def k2 : Class := { plain "com/example/kwerx/kwerx/index/IntList" (some 0) with
  accessFlags := 32
  interfaces := #[]
  cf := some (fileOf pool2 8 #[] #[{ accessFlags := 0, nameIndex := 5, descriptorIndex := 6, attributes := #[] }, { accessFlags := 0, nameIndex := 31, descriptorIndex := 32, attributes := #[] }, { accessFlags := 0, nameIndex := 34, descriptorIndex := 35, attributes := #[] }, { accessFlags := 0, nameIndex := 38, descriptorIndex := 32, attributes := #[] }, { accessFlags := 0, nameIndex := 15, descriptorIndex := 39, attributes := #[] }] 32 2 #[] #[{ accessFlags := 2, nameIndex := 11, descriptorIndex := 12, attributes := #[] }, { accessFlags := 2, nameIndex := 15, descriptorIndex := 16, attributes := #[] }])
  fields := #[{ name := "values", type := (.array .int), accessFlags := 2, slot := 0, constantValue := 0 }, { name := "size", type := .int, accessFlags := 2, slot := 1, constantValue := 0 }]
  methods := #[k2m0, k2m1, k2m2, k2m3, k2m4]
  instanceTypes := #[(.array .int), .int]
  staticTypes := #[]
  resolved := Array.replicate 42 none
  statics := none }

def pool3 : Array CpInfo := pool [(1, .class_ 2), (0, u "java/lang/Math"), (1, .class_ 6), (1, u "java/lang/Object"), (0, u "<init>"), (0, u "()V"), (89, .class_ 100), (1, u "java/lang/Math$RandomNumberGeneratorHolder"), (71, u "negativeZeroFloatBits"), (0, u "J"), (2, u "negativeZeroDoubleBits"), (24, u "min"), (43, u "$assertionsDisabled"), (0, u "Z"), (88, u "(II)I"), (2, u "twoToTheDoubleScaleDown"), (0, u "D"), (4, u "twoToTheDoubleScaleUp"), (9, u "E"), (3, u "PI"), (2, u "TAU"), (2, u "DEGREES_TO_RADIANS"), (0, u "RADIANS_TO_DEGREES")] 94

def k3m0 : Method := { name := "<init>", desc := "()V", sig := { parameters := [], returnType := none }, accessFlags := 2, code := none }
def k3c1 : Code := { maxStack := 2, maxLocals := 2, code := jdk_29_method_69_code, exceptionTable := #[], attributes := #[] }
def k3m1 : Method := { name := "min", desc := "(II)I", sig := { parameters := [.int, .int], returnType := some .int }, accessFlags := 9, code := some k3c1 }
/-- java/lang/Math -/
def k3 : Class := { plain "java/lang/Math" (some 0) with
  accessFlags := 49
  interfaces := #[]
  cf := some (fileOf pool3 1 #[.nestMembers #[98]] #[{ accessFlags := 2, nameIndex := 7, descriptorIndex := 8, attributes := #[] }, { accessFlags := 9, nameIndex := 201, descriptorIndex := 335, attributes := #[] }] 49 4 #[] #[{ accessFlags := 25, nameIndex := 354, descriptorIndex := 339, attributes := #[] }, { accessFlags := 25, nameIndex := 358, descriptorIndex := 339, attributes := #[] }, { accessFlags := 25, nameIndex := 361, descriptorIndex := 339, attributes := #[] }, { accessFlags := 26, nameIndex := 364, descriptorIndex := 339, attributes := #[] }, { accessFlags := 26, nameIndex := 365, descriptorIndex := 339, attributes := #[] }, { accessFlags := 26, nameIndex := 172, descriptorIndex := 173, attributes := #[] }, { accessFlags := 26, nameIndex := 176, descriptorIndex := 173, attributes := #[] }, { accessFlags := 8, nameIndex := 344, descriptorIndex := 339, attributes := #[] }, { accessFlags := 8, nameIndex := 338, descriptorIndex := 339, attributes := #[] }, { accessFlags := 4120, nameIndex := 245, descriptorIndex := 246, attributes := #[] }])
  fields := #[{ name := "E", type := .double, accessFlags := 25, slot := 0, constantValue := 0 }, { name := "PI", type := .double, accessFlags := 25, slot := 1, constantValue := 0 }, { name := "TAU", type := .double, accessFlags := 25, slot := 2, constantValue := 0 }, { name := "DEGREES_TO_RADIANS", type := .double, accessFlags := 26, slot := 3, constantValue := 0 }, { name := "RADIANS_TO_DEGREES", type := .double, accessFlags := 26, slot := 4, constantValue := 0 }, { name := "negativeZeroFloatBits", type := .long, accessFlags := 26, slot := 5, constantValue := 0 }, { name := "negativeZeroDoubleBits", type := .long, accessFlags := 26, slot := 6, constantValue := 0 }, { name := "twoToTheDoubleScaleUp", type := .double, accessFlags := 8, slot := 7, constantValue := 0 }, { name := "twoToTheDoubleScaleDown", type := .double, accessFlags := 8, slot := 8, constantValue := 0 }, { name := "$assertionsDisabled", type := .boolean, accessFlags := 4120, slot := 9, constantValue := 0 }]
  methods := #[k3m0, k3m1]
  instanceTypes := #[]
  staticTypes := #[.double, .double, .double, .double, .double, .long, .long, .double, .double, .boolean]
  resolved := Array.replicate 460 none
  statics := none }

def pool4 : Array CpInfo := pool [(1, u "java/lang/Cloneable"), (0, .class_ 1), (0, u "java/lang/Object"), (0, .class_ 3)] 3

/-- java/lang/Cloneable -/
def k4 : Class := { plain "java/lang/Cloneable" (some 0) with
  accessFlags := 1537
  interfaces := #[]
  cf := some (fileOf pool4 2 #[] #[] 1537 4 #[] #[])
  fields := #[]
  methods := #[]
  instanceTypes := #[]
  staticTypes := #[]
  resolved := Array.replicate 8 none
  statics := none }

def pool5 : Array CpInfo := pool [(1, u "java/io/Serializable"), (0, .class_ 1), (0, u "java/lang/Object"), (0, .class_ 3)] 3

/-- java/io/Serializable -/
def k5 : Class := { plain "java/io/Serializable" (some 0) with
  accessFlags := 1537
  interfaces := #[]
  cf := some (fileOf pool5 2 #[] #[] 1537 4 #[] #[])
  fields := #[]
  methods := #[]
  instanceTypes := #[]
  staticTypes := #[]
  resolved := Array.replicate 8 none
  statics := none }

/-- the primitive byte -/
def k6 : Class := { plain "byte" none with kind := .primitive 'B', accessFlags := 0x411 }
/-- [B -/
def k7 : Class := { plain "[B" (some 0) with kind := .array 6 .byte, interfaces := #[4, 5], accessFlags := 1041 }

/-- the primitive int -/
def k8 : Class := { plain "int" none with kind := .primitive 'I', accessFlags := 0x411 }
/-- [I -/
def k9 : Class := { plain "[I" (some 0) with kind := .array 8 .int, interfaces := #[4, 5], accessFlags := 1041 }

def heap : Heap := #[]
def classes : Array Class := #[k0, k1, k2, k3, k4, k5, k6, k7, k8, k9]
def interned : List (Array UInt16 × Addr) := []
def slotsUsed : Nat := 0
def theMethod : MethodId := ⟨1, 1⟩
def args0 : Array Value := #[.int 5, .int 6, .int 7, .int 8, .int 9, .int 10]
def aboutOver (below : List Frame) : State where
  vm := { classes := classes, interned := interned.toArray }
  heap := heap
  slotsUsed := slotsUsed
  threads := #[{ frames := .invoking theMethod args0 :: below }]
def below0 : List Frame := [.native { method := ⟨0, 0⟩, args := #[] }]
def about1 : State := aboutOver below0
def p0 : Program := .bare "" "" ""
def e0 : Env := launch0.env 0 0 0
theorem w_frames : about1.frames = Frame.invoking theMethod args0 :: below0 := rfl
set_option maxRecDepth 65536 in
theorem w_args : argsFit about1.vm theMethod args0 = true := by decide +kernel
set_option maxRecDepth 65536 in
theorem w_heap : heapFits about1 = true := by decide +kernel
set_option maxRecDepth 65536 in
theorem w_runnable : about1.curStatus? = some .runnable := by decide +kernel
set_option maxRecDepth 65536 in
theorem w_alone : about1.alone = true := by decide +kernel
set_option maxRecDepth 65536 in
theorem w_named : about1.methodNamed? x = some theMethod := by decide +kernel
set_option maxRecDepth 65536 in
theorem w_hears : about1.hears theMethod below0 = true := by decide +kernel
set_option maxRecDepth 65536 in
theorem w_ripe : about1.ripe theMethod args0 below0 = true := by decide +kernel
theorem w_running : about1.status = .running := rfl
set_option maxRecDepth 65536 in
theorem w_room : about1.hasRoom e0.platform room_1 = true :=
  launch0.hasRoom_least _ room_1 (by decide +kernel) (by decide +kernel) (by decide +kernel) (by decide +kernel) (by decide +kernel) (by decide +kernel)
theorem allAtoms_all (ts : List Jvm.Cond) (a : Array Jvm.Value) (st : Jvm.State) : (allAtoms ts).before a st = ts.all (fun c => c.before a st) := by
  induction ts with
  | nil => rfl
  | cons c t ih =>
    show (Jvm.Cond.and c (allAtoms t)).before a st = _
    rw [Jvm.Cond.before_and, ih, List.all_cons]
def words1 : List Jvm.Cond := Jvm.Cond.code x code maxLocals ret :: tables_1
/-- a 'code' word, met by the world's own term for the bytes: nothing is compared byte by byte -/
theorem code_word {y : MethodName} {bytes : ByteArray} {mx : Nat} {rt : Option FieldType} {a : Array Value} {s : State} {m : MethodId} {meth : Method} {c : Code} (h1 : s.methodNamed? y = some m) (h2 : s.vm.method? m = some meth) (h3 : meth.code = some c) (h4 : c.code = bytes)
    (h5 : (c.maxLocals == mx && c.exceptionTable.isEmpty && decide (c.maxStack ≤ mostOperands) && decide (meth.sig.returnType = rt) && !meth.locks && decide (parseMethodDescriptor y.desc = some meth.sig)) = true) : (Jvm.Cond.code y bytes mx rt).before a s = true := by
  simp only [Bool.and_eq_true, beq_iff_eq, Bool.not_eq_true', decide_eq_true_eq] at h5
  obtain ⟨⟨⟨⟨⟨g1, g2⟩, g3⟩, g4⟩, g5⟩, g6⟩ := h5
  simp [Cond.before, Cond.holds, Cond.value, h1, h2, h3, h4, g1, g2, g3, g4, g5, g6]
def isCode : Jvm.Cond → Bool
  | .code _ _ _ _ => true
  | _ => false
theorem all_split {L : List Jvm.Cond} {P : Jvm.Cond → Bool} (h1 : L.all (fun c => isCode c || P c) = true) (h2 : ∀ c ∈ L.filter isCode, P c = true) : L.all P = true := by
  refine List.all_eq_true.mpr fun c hc => ?_
  have h := List.all_eq_true.mp h1 c hc
  rcases Bool.eq_false_or_eq_true (isCode c) with hi | hi
  · exact h2 c (List.mem_filter.mpr ⟨hc, hi⟩)
  · simpa [hi] using h
set_option maxRecDepth 65536 in
theorem w_c0 : (Jvm.Cond.code x code maxLocals ret).before args0 about1 = true := code_word (m := ⟨1, 1⟩) (meth := k1m1) (c := k1c1) (by decide +kernel) rfl rfl rfl (by decide +kernel)
set_option maxRecDepth 65536 in
theorem w_c1 : (Jvm.Cond.code ({ cls := "com/example/kwerx/kwerx/index/IntList", name := "<init>", desc := "()V" } : Jvm.MethodName) prog_51_method_1_code (1 : Nat) (Option.none : Option Jvm.ClassFile.FieldType)).before args0 about1 = true := code_word (m := ⟨2, 0⟩) (meth := k2m0) (c := k2c0) (by decide +kernel) rfl rfl rfl (by decide +kernel)
set_option maxRecDepth 65536 in
theorem w_c2 : (Jvm.Cond.code ({ cls := "java/lang/Object", name := "<init>", desc := "()V" } : Jvm.MethodName) object_method_1_code (1 : Nat) (Option.none : Option Jvm.ClassFile.FieldType)).before args0 about1 = true := code_word (m := ⟨0, 0⟩) (meth := k0m0) (c := k0c0) (by decide +kernel) rfl rfl rfl (by decide +kernel)
set_option maxRecDepth 65536 in
theorem w_c3 : (Jvm.Cond.code ({ cls := "com/example/kwerx/kwerx/index/IntList", name := "truncate", desc := "(I)V" } : Jvm.MethodName) prog_51_method_5_code (2 : Nat) (Option.none : Option Jvm.ClassFile.FieldType)).before args0 about1 = true := code_word (m := ⟨2, 3⟩) (meth := k2m3) (c := k2c3) (by decide +kernel) rfl rfl rfl (by decide +kernel)
set_option maxRecDepth 65536 in
theorem w_c4 : (Jvm.Cond.code ({ cls := "java/lang/Math", name := "min", desc := "(II)I" } : Jvm.MethodName) jdk_29_method_69_code (2 : Nat) (Option.some Jvm.ClassFile.FieldType.int)).before args0 about1 = true := code_word (m := ⟨3, 1⟩) (meth := k3m1) (c := k3c1) (by decide +kernel) rfl rfl rfl (by decide +kernel)
set_option maxRecDepth 65536 in
theorem w_c5 : (Jvm.Cond.code ({ cls := "com/example/kwerx/kwerx/index/IntList", name := "size", desc := "()I" } : Jvm.MethodName) prog_51_method_6_code (1 : Nat) (Option.some Jvm.ClassFile.FieldType.int)).before args0 about1 = true := code_word (m := ⟨2, 4⟩) (meth := k2m4) (c := k2c4) (by decide +kernel) rfl rfl rfl (by decide +kernel)
set_option maxRecDepth 65536 in
theorem w_c6 : (Jvm.Cond.code ({ cls := "com/example/kwerx/kwerx/index/IntList", name := "add", desc := "(I)V" } : Jvm.MethodName) prog_51_method_2_code (2 : Nat) (Option.none : Option Jvm.ClassFile.FieldType)).before args0 about1 = true := code_word (m := ⟨2, 1⟩) (meth := k2m1) (c := k2c1) (by decide +kernel) rfl rfl rfl (by decide +kernel)
set_option maxRecDepth 65536 in
theorem w_c7 : (Jvm.Cond.code ({ cls := "com/example/kwerx/kwerx/index/IntList", name := "get", desc := "(I)I" } : Jvm.MethodName) prog_51_method_3_code (2 : Nat) (Option.some Jvm.ClassFile.FieldType.int)).before args0 about1 = true := code_word (m := ⟨2, 2⟩) (meth := k2m2) (c := k2c2) (by decide +kernel) rfl rfl rfl (by decide +kernel)
def codes1 : List Jvm.Cond := [Jvm.Cond.code x code maxLocals ret, Jvm.Cond.code ({ cls := "com/example/kwerx/kwerx/index/IntList", name := "<init>", desc := "()V" } : Jvm.MethodName) prog_51_method_1_code (1 : Nat) (Option.none : Option Jvm.ClassFile.FieldType), Jvm.Cond.code ({ cls := "java/lang/Object", name := "<init>", desc := "()V" } : Jvm.MethodName) object_method_1_code (1 : Nat) (Option.none : Option Jvm.ClassFile.FieldType), Jvm.Cond.code ({ cls := "com/example/kwerx/kwerx/index/IntList", name := "truncate", desc := "(I)V" } : Jvm.MethodName) prog_51_method_5_code (2 : Nat) (Option.none : Option Jvm.ClassFile.FieldType), Jvm.Cond.code ({ cls := "java/lang/Math", name := "min", desc := "(II)I" } : Jvm.MethodName) jdk_29_method_69_code (2 : Nat) (Option.some Jvm.ClassFile.FieldType.int), Jvm.Cond.code ({ cls := "com/example/kwerx/kwerx/index/IntList", name := "size", desc := "()I" } : Jvm.MethodName) prog_51_method_6_code (1 : Nat) (Option.some Jvm.ClassFile.FieldType.int), Jvm.Cond.code ({ cls := "com/example/kwerx/kwerx/index/IntList", name := "add", desc := "(I)V" } : Jvm.MethodName) prog_51_method_2_code (2 : Nat) (Option.none : Option Jvm.ClassFile.FieldType), Jvm.Cond.code ({ cls := "com/example/kwerx/kwerx/index/IntList", name := "get", desc := "(I)I" } : Jvm.MethodName) prog_51_method_3_code (2 : Nat) (Option.some Jvm.ClassFile.FieldType.int)]
set_option maxRecDepth 65536 in
theorem codes_eq : words1.filter isCode = codes1 := rfl
theorem w_codes : ∀ c ∈ words1.filter isCode, c.before args0 about1 = true := by
  rw [codes_eq]
  intro c hc
  simp only [codes1, List.mem_cons, List.not_mem_nil, or_false] at hc
  rcases hc with rfl | rfl | rfl | rfl | rfl | rfl | rfl | rfl
  · exact w_c0
  · exact w_c1
  · exact w_c2
  · exact w_c3
  · exact w_c4
  · exact w_c5
  · exact w_c6
  · exact w_c7
set_option maxRecDepth 65536 in
theorem w_t1 : (words1.take 24).all (fun c => isCode c || c.before args0 about1) = true := by decide +kernel
set_option maxRecDepth 65536 in
theorem w_t2 : (words1.drop 24).all (fun c => isCode c || c.before args0 about1) = true := by decide +kernel
theorem w_tables : (allAtoms (Jvm.Cond.code x code maxLocals ret :: tables_1)).before args0 about1 = true := by
  rw [allAtoms_all]
  show words1.all (fun c => c.before args0 about1) = true
  refine all_split ?_ w_codes
  rw [← List.take_append_drop 24 words1, List.all_append, w_t1, w_t2]
  rfl
set_option maxRecDepth 65536 in
theorem w_case : (Jvm.Cond.and given_1 narrow_1).before args0 about1 = true := by decide +kernel
theorem w_applies : (headSpec (Jvm.Cond.code x code maxLocals ret :: tables_1) room_1).applies x e0.platform about1 = true :=
  (Spec.applies_iff w_frames).mpr ⟨w_running, w_runnable, w_alone, w_named, w_hears, w_ripe, w_room, w_tables⟩
theorem atStart : AtStart classFile x code maxLocals ret World_1 tables_1 room_1 Calls_1 rest_1 Pre_1 launch0 p0 e0 about1 theMethod args0 below0 :=
  ⟨lists_1, trivial, launch0.admits_env _ _ _, launch0.least_env, fairChoices_fair.cas, fairChoices_fair.clock, w_frames, w_args, w_heap, w_applies, trivial, trivial, w_case⟩
end start1
theorem witness_1 : WitnessClaimed_1 := ⟨start1.p0, start1.e0, start1.about1, start1.theMethod, start1.args0, start1.below0, start1.atStart⟩
end Jvm.Pilot.@@N@@
