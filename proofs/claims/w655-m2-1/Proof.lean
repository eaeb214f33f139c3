import JvmDerived
import JvmDerived.Pilot.@@N@@Statement
import JvmDerived.Pilot.@@N@@Code
set_option linter.unusedVariables false
set_option linter.unusedSimpArgs false
namespace Jvm.Pilot.@@N@@
open Jvm Jvm.ClassFile Sem Op Lib Jvm.Free Jvm.Stand Jvm.LawKit Jvm.RoadKit Bundle Jvm.Pilot.@@N@@.Jvm.D
section Own
variable {p : Program} {l : Launch} {e : Env} {R : Room} {s : State} {m : MethodId} {args : Array Value} {below : List Frame} {meth : Method} {c : Code} {T T' : State} {locs : List Loc} {cells slots : Nat} {G : Outcome → State → Prop} {g g' : JFrame} {Z : State} {h h' h0 : Heap} {a b : Addr} {n0 : Nat} {Q : Option Value → Heap → List Loc → Prop} {CC SS : Nat}
/-- the run from T, with the frame g on top, ends as G wants it -/
def Win (p : Program) (e : Env) (below : List Frame) (G : Outcome → State → Prop) (T : State) (g : JFrame) : Prop :=
  ∃ s₂ o, Steps p.tables e below (T.setTop g) s₂ ∧ s₂.status = .running ∧ Ended s₂ below o ∧ G o s₂
theorem Win.st (W : Win p e below G T' g') (st : ∀ t, Steps p.tables e below (T'.setTop g') t → Steps p.tables e below (T.setTop g) t) : Win p e below G T g := by
  obtain ⟨s2, o, h1, h2⟩ := W
  exact ⟨s2, o, st _ h1, h2⟩
theorem Win.tr (W : Win p e below G T' g') (st : Steps p.tables e below (T.setTop g) (T'.setTop g')) : Win p e below G T g := by
  obtain ⟨s2, o, h1, h2⟩ := W
  exact ⟨s2, o, st.trans h1, h2⟩
/-- how a body ends: it returned v, Q of the value and the heap, the frame -/
def Ends (s : State) (Q : Option Value → Heap → List Loc → Prop) (CC SS : Nat) (o : Outcome) (U : State) : Prop := ∃ v L, o = .returned v ∧ Q v U.heap L ∧ FrameEnd s o U L CC SS
theorem Win.ret (X : Stand p l e R s m args below meth c T locs cells slots) (hx : p.tables.exec = Jvm.exec) (hlk : meth.locks = false) (eT : T.heap = h) {pc : Nat} {Ls : Array Slot} {w : Value} {t : FieldType} {i : Instr} {rest : List Value} (hret : meth.sig.returnType = some t) (hn : narrow t w = w)
    (hi : (i = .ireturn ∧ (t = .int ∨ t = .boolean ∨ t = .byte ∨ t = .char ∨ t = .short) ∧ ∃ z, w = .int z) ∨ (i = .lreturn ∧ t = .long ∧ ∃ z, w = .long z) ∨ (i = .dreturn ∧ t = .double ∧ ∃ z, w = .double z) ∨ (i = .freturn ∧ t = .float ∧ ∃ z, w = .float z) ∨ (i = .areturn ∧ t.isReference = true ∧ w.isRef = true))
    (hd : decode c.code pc = .ok (i, 1)) (hc : cells ≤ CC) (hs : slots ≤ SS) (hQ : Q (some w) h locs) : Win p e below (Ends s Q CC SS) T (mkF m pc Ls (w :: rest)) := by
  obtain ⟨fs, hr, hrun, hended, hW, hsame⟩ := X.leave (v := some w) (fun h => by rw [hret] at h; cases h) hlk
  subst eT
  exact ⟨_, _, retOut X hx hret hn hi hd hr, hrun, hended, _, _, rfl, hQ, ⟨_, rfl⟩, hW, hsame.mono hc hs⟩
theorem Win.retN (X : Stand p l e R s m args below meth c T locs cells slots) (hx : p.tables.exec = Jvm.exec) (hlk : meth.locks = false) (eT : T.heap = h) {pc : Nat} {Ls : Array Slot} {z z' : Int32} {t : FieldType} {rest : List Value} (hret : meth.sig.returnType = some t) (ht : t = .boolean ∨ t = .byte ∨ t = .char ∨ t = .short)
    (hd : decode c.code pc = .ok (.ireturn, 1)) (hc : cells ≤ CC) (hs : slots ≤ SS) (hz : nar t z = z') (hQ : Q (some (.int z')) h locs) : Win p e below (Ends s Q CC SS) T (mkF m pc Ls (.int z :: rest)) := by
  subst hz
  obtain ⟨fs, hr, hrun, hended, hW, hsame⟩ := X.leave (v := some (.int (nar t z))) (fun h => by rw [hret] at h; cases h) hlk
  subst eT
  exact ⟨_, _, Jvm.RoadKit.retN X hx hret ht hd hr, hrun, hended, _, _, rfl, hQ, ⟨_, rfl⟩, hW, hsame.mono hc hs⟩
theorem Win.retV (X : Stand p l e R s m args below meth c T locs cells slots) (hx : p.tables.exec = Jvm.exec) (hlk : meth.locks = false) (eT : T.heap = h) {pc : Nat} {Ls : Array Slot} (hret : meth.sig.returnType = none)
    (hd : decode c.code pc = .ok (.return_, 1)) (hc : cells ≤ CC) (hs : slots ≤ SS) (hQ : Q none h locs) : Win p e below (Ends s Q CC SS) T (mkF m pc Ls []) := by
  obtain ⟨fs, hr, hrun, hended, hW, hsame⟩ := X.leave (v := none) (fun _ => rfl) hlk
  subst eT
  exact ⟨_, _, X.returnOut hx hret hd hr, hrun, hended, _, _, rfl, hQ, ⟨_, rfl⟩, hW, hsame.mono hc hs⟩
theorem own_hide {k : Nat} {sl : Nat} (X : Stand p l e R s m args below meth c T (locs ++ [⟨a, sl⟩]) cells slots) (N : Fr k locs) (q : k ≤ a) : ∃ L, Stand p l e R s m args below meth c T L cells slots ∧ Fr k L := ⟨_, X, Fr.snoc X N q⟩
theorem own_kext (E : Ext h h') : Keep h h' [] := (Keep.refl h []).ext E
theorem own_new {x : Addr} (g : b = h.size) (q : x < h.size) : x ≠ b := Nat.ne_of_lt (g ▸ q)
theorem own_newle (Z0 : n0 ≤ h.size) (g : b = h.size) : n0 ≤ b := g ▸ Z0
theorem own_len {k : ClassId} {ty : FieldType} {z : Int32} {vs : List Value} {dv : Value} (V : Arv Z h a k ty z vs dv) : ¬ z < 0 := by obtain ⟨_, _, _, _, q, _⟩ := V; exact q
theorem own_alen {k : ClassId} {ty : FieldType} {z : Int32} {vs : List Value} {dv : Value} (X : Stand p l e R s m args below meth c T locs cells slots) (hx : p.tables.exec = Jvm.exec) (hZ : Z.Warmed39 s.vm) (eT : T.heap = h) (V : Arv Z h a k ty z vs dv) {rest : List Value} (hg : g.method = m) (hs : g.stack = .ref a :: rest) (hd : decode c.code g.pc = .ok (.arraylength, 1)) :
    ∀ target, Steps p.tables e below (T.setTop { g with pc := g.pc + 1, stack := .int z :: rest }) target → Steps p.tables e below (T.setTop g) target := by
  obtain ⟨cl, A, -, S, q, -, -⟩ := V
  intro t k
  refine X.arraylength hx (by rw [eT]; exact A.1) (State.isArrayOf_alike hZ.alike A.2.1) hg hs hd _ ?_
  rw [len_of S q]; exact k
theorem own_iald {k : ClassId} {z : Int32} {vs : List Value} {dv : Value} (X : Stand p l e R s m args below meth c T locs cells slots) (hx : p.tables.exec = Jvm.exec) (hZ : Z.Warmed39 s.vm) (eT : T.heap = h) (V : Arv Z h a k .int z vs dv) {j : Int32} {v : Value} (h1 : ¬ j < 0) (h2 : j < z) (hv : vs.getD j.toNatClampNeg dv = v) {rest : List Value} (hg : g.method = m) (hs : g.stack = .int j :: .ref a :: rest) (hd : decode c.code g.pc = .ok (.iaload, 1)) :
    ∀ target, Steps p.tables e below (T.setTop { g with pc := g.pc + 1, stack := v :: rest }) target → Steps p.tables e below (T.setTop g) target := by
  obtain ⟨cl, A, -, S, q, H, -⟩ := V
  have hin := inb_of S ⟨h1, h2⟩
  exact X.iaload hx (by rw [eT]; exact A.1) (State.isArrayOf_alike hZ.alike A.2.1) A.2.2 hin (H.at hin hv) hg hs hd
theorem own_bald {k : ClassId} {z : Int32} {vs : List Value} {dv : Value} (X : Stand p l e R s m args below meth c T locs cells slots) (hx : p.tables.exec = Jvm.exec) (hZ : Z.Warmed39 s.vm) (eT : T.heap = h) (V : Arv Z h a k .byte z vs dv) {j : Int32} {v : Value} (h1 : ¬ j < 0) (h2 : j < z) (hv : vs.getD j.toNatClampNeg dv = v) {rest : List Value} (hg : g.method = m) (hs : g.stack = .int j :: .ref a :: rest) (hd : decode c.code g.pc = .ok (.baload, 1)) :
    ∀ target, Steps p.tables e below (T.setTop { g with pc := g.pc + 1, stack := v :: rest }) target → Steps p.tables e below (T.setTop g) target := by
  obtain ⟨cl, A, -, S, q, H, -⟩ := V
  have hin := inb_of S ⟨h1, h2⟩
  exact X.baloadBytes hx (by rw [eT]; exact A.1) (State.isArrayOf_alike hZ.alike A.2.1) A.2.2 hin (H.at hin hv) hg hs hd
theorem own_cald {k : ClassId} {z : Int32} {vs : List Value} {dv : Value} (X : Stand p l e R s m args below meth c T locs cells slots) (hx : p.tables.exec = Jvm.exec) (hZ : Z.Warmed39 s.vm) (eT : T.heap = h) (V : Arv Z h a k .char z vs dv) {j : Int32} {v : Value} (h1 : ¬ j < 0) (h2 : j < z) (hv : vs.getD j.toNatClampNeg dv = v) {rest : List Value} (hg : g.method = m) (hs : g.stack = .int j :: .ref a :: rest) (hd : decode c.code g.pc = .ok (.caload, 1)) :
    ∀ target, Steps p.tables e below (T.setTop { g with pc := g.pc + 1, stack := v :: rest }) target → Steps p.tables e below (T.setTop g) target := by
  obtain ⟨cl, A, -, S, q, H, -⟩ := V
  have hin := inb_of S ⟨h1, h2⟩
  exact X.caload hx (by rw [eT]; exact A.1) (State.isArrayOf_alike hZ.alike A.2.1) A.2.2 hin (H.at hin hv) hg hs hd
theorem own_cast {k : ClassId} {z : Int32} {vs : List Value} {dv : Value} (X : Stand p l e R s m args below meth c T locs cells slots) (hx : p.tables.exec = Jvm.exec) (hZ : Z.Warmed39 s.vm) (eT : T.heap = h) (N : Fr n0 locs) (ge : n0 ≤ a) (V : Arv Z h a k .char z vs dv) {j x : Int32} (h1 : ¬ j < 0) (h2 : j < z) {i : Nat} (hj : j.toNatClampNeg = i) (hi : i < vs.length) {rest : List Value} (hg : g.method = m) (hs : g.stack = .int x :: .int j :: .ref a :: rest) (hd : decode c.code g.pc = .ok (.castore, 1)) :
    ∃ T' h' L, Stand p l e R s m args below meth c T' L cells slots ∧ Fr n0 L ∧ T'.heap = h' ∧ Keep h h' [a] ∧ Arv Z h' a k .char z (vs.set i (.int (x.toUInt32.toUInt16.toUInt32.toInt32))) dv ∧ ∀ target, Steps p.tables e below (T'.setTop { g with pc := g.pc + 1, stack := rest }) target → Steps p.tables e below (T.setTop g) target := by
  obtain ⟨cl, A, q1, S, q, H, Gf⟩ := V
  have hin := inb_of S ⟨h1, h2⟩
  obtain ⟨T', h', X', e', W, st⟩ := stC X hx hZ eT A hin hg hs hd
  exact ⟨T', h', _, X', Fr.snoc X' N ge, e', Keep.of_wr W, Arv.set A q1 S q H Gf (fits_nar_char x) W i hj hi, st⟩
theorem own_iast {k : ClassId} {z : Int32} {vs : List Value} {dv : Value} (X : Stand p l e R s m args below meth c T locs cells slots) (hx : p.tables.exec = Jvm.exec) (hZ : Z.Warmed39 s.vm) (eT : T.heap = h) (N : Fr n0 locs) (ge : n0 ≤ a) (V : Arv Z h a k .int z vs dv) {j x : Int32} (h1 : ¬ j < 0) (h2 : j < z) {i : Nat} (hj : j.toNatClampNeg = i) (hi : i < vs.length) {rest : List Value} (hg : g.method = m) (hs : g.stack = .int x :: .int j :: .ref a :: rest) (hd : decode c.code g.pc = .ok (.iastore, 1)) :
    ∃ T' h' L, Stand p l e R s m args below meth c T' L cells slots ∧ Fr n0 L ∧ T'.heap = h' ∧ Keep h h' [a] ∧ Arv Z h' a k .int z (vs.set i (.int x)) dv ∧ ∀ target, Steps p.tables e below (T'.setTop { g with pc := g.pc + 1, stack := rest }) target → Steps p.tables e below (T.setTop g) target := by
  obtain ⟨cl, A, q1, S, q, H, Gf⟩ := V
  have hin := inb_of S ⟨h1, h2⟩
  obtain ⟨T', h', X', e', W, st⟩ := stI X hx hZ eT A hin hg hs hd
  exact ⟨T', h', _, X', Fr.snoc X' N ge, e', Keep.of_wr W, Arv.set A q1 S q H Gf rfl W i hj hi, st⟩
theorem own_bast {k : ClassId} {z : Int32} {vs : List Value} {dv : Value} (X : Stand p l e R s m args below meth c T locs cells slots) (hx : p.tables.exec = Jvm.exec) (hZ : Z.Warmed39 s.vm) (eT : T.heap = h) (N : Fr n0 locs) (ge : n0 ≤ a) (V : Arv Z h a k .byte z vs dv) {j x : Int32} (h1 : ¬ j < 0) (h2 : j < z) {i : Nat} (hj : j.toNatClampNeg = i) (hi : i < vs.length) {rest : List Value} (hg : g.method = m) (hs : g.stack = .int x :: .int j :: .ref a :: rest) (hd : decode c.code g.pc = .ok (.bastore, 1)) :
    ∃ T' h' L, Stand p l e R s m args below meth c T' L cells slots ∧ Fr n0 L ∧ T'.heap = h' ∧ Keep h h' [a] ∧ Arv Z h' a k .byte z (vs.set i (.int x.toInt8.toInt32)) dv ∧ ∀ target, Steps p.tables e below (T'.setTop { g with pc := g.pc + 1, stack := rest }) target → Steps p.tables e below (T.setTop g) target := by
  obtain ⟨cl, A, q1, S, q, H, Gf⟩ := V
  have hin := inb_of S ⟨h1, h2⟩
  obtain ⟨T', h', X', e', W, st⟩ := stB X hx hZ eT A hin hg hs hd
  exact ⟨T', h', _, X', Fr.snoc X' N ge, e', Keep.of_wr W, Arv.set A q1 S q H Gf (fits_nar_byte x) W i hj hi, st⟩
/-- how a body ends that may have interned a String -/
def EndsW (s : State) (Q : Option Value → Heap → List Loc → Prop) (CC SS : Nat) (o : Outcome) (U : State) : Prop := ∃ v L, o = .returned v ∧ Q v U.heap L ∧ ReturnedEndW s o U L CC SS
theorem Win.retNW {vm₁ : Vm} {k1 : Nat} (X : Stand p l e R (s.setVm vm₁) m args below meth c T locs cells slots) (hS : s.Since vm₁ k1) (hk : k1 ≤ h.size) (hx : p.tables.exec = Jvm.exec) (hlk : meth.locks = false) (eT : T.heap = h) {pc : Nat} {Ls : Array Slot} {z z' : Int32} {t : FieldType} {rest : List Value} (hret : meth.sig.returnType = some t) (ht : t = .boolean ∨ t = .byte ∨ t = .char ∨ t = .short)
    (hd : decode c.code pc = .ok (.ireturn, 1)) (hc : cells ≤ CC) (hs : slots ≤ SS) (hz : nar t z = z') (hQ : Q (some (.int z')) h locs) : Win p e below (EndsW s Q CC SS) T (mkF m pc Ls (.int z :: rest)) := by
  subst hz
  subst eT
  obtain ⟨fs, hr, hrun, hended, h1, h2, h3, h4⟩ := X.leaveW hS hk (v := some (.int (nar t z))) (fun h => by rw [hret] at h; cases h) hlk
  exact ⟨_, _, Jvm.RoadKit.retN X hx hret ht hd hr, hrun, hended, _, _, rfl, hQ, h1, h2, h3, h4.mono hc hs⟩
theorem Win.retVW {vm₁ : Vm} {k1 : Nat} (X : Stand p l e R (s.setVm vm₁) m args below meth c T locs cells slots) (hS : s.Since vm₁ k1) (hk : k1 ≤ h.size) (hx : p.tables.exec = Jvm.exec) (hlk : meth.locks = false) (eT : T.heap = h) {pc : Nat} {Ls : Array Slot} (hret : meth.sig.returnType = none)
    (hd : decode c.code pc = .ok (.return_, 1)) (hc : cells ≤ CC) (hs : slots ≤ SS) (hQ : Q none h locs) : Win p e below (EndsW s Q CC SS) T (mkF m pc Ls []) := by
  subst eT
  obtain ⟨fs, hr, hrun, hended, h1, h2, h3, h4⟩ := X.leaveW hS hk (v := none) (fun _ => rfl) hlk
  exact ⟨_, _, X.returnOut hx hret hd hr, hrun, hended, _, _, rfl, hQ, h1, h2, h3, h4.mono hc hs⟩
theorem Win.retRW {vm₁ : Vm} {k1 : Nat} (X : Stand p l e R (s.setVm vm₁) m args below meth c T locs cells slots) (hS : s.Since vm₁ k1) (hk : k1 ≤ h.size) (hx : p.tables.exec = Jvm.exec) (hlk : meth.locks = false) (eT : T.heap = h) {pc : Nat} {Ls : Array Slot} {w : Value} {t : FieldType} {rest : List Value} (hret : meth.sig.returnType = some t) (ht : t.isReference = true) (hw : w.isRef = true) (hn : narrow t w = w)
    (hd : decode c.code pc = .ok (.areturn, 1)) (hc : cells ≤ CC) (hs : slots ≤ SS) (hQ : Q (some w) h locs) : Win p e below (EndsW s Q CC SS) T (mkF m pc Ls (w :: rest)) := by
  subst eT
  obtain ⟨fs, hr, hrun, hended, h1, h2, h3, h4⟩ := X.leaveW hS hk (v := some w) (fun h => by rw [hret] at h; cases h) hlk
  exact ⟨_, _, retOut X hx hret hn (Or.inr (Or.inr (Or.inr (Or.inr ⟨rfl, ht, hw⟩)))) hd hr, hrun, hended, _, _, rfl, hQ, h1, h2, h3, h4.mono hc hs⟩
/-- RoadKit's backOfSH for a callee that asks the invariant and doesn't give it back -/
theorem own_backOfSP {a0 : Array Value} {EL : List (String × Nat)} {vm0 : Vm} {y : MethodName} {bytes : ByteArray} {maxL : Nat} {ret : Option FieldType} {rm : Room} {len W : Nat} {as' : Array Value} {Q : Option Value → Heap → List Loc → Prop}
    (hM : MetFree l y (head1 [Jvm.Cond.code y bytes maxL ret] rm) (fun a U => a = as' ∧ Z.Warmed39 U.vm ∧ U.heap = h ∧ CHv Z EL U.vm h) (fun _ _ _ _ _ => True) (fun _ U o U' => ∃ v L, o = .returned v ∧ Q v U'.heap L ∧ ReturnedEndW U o U' L rm.cells rm.slots))
    (hZ : Z.Warmed39 vm0) (wc : (Jvm.Cond.code y bytes maxL ret).before a0 Z = true) (wz : (Jvm.Cond.initialized y.cls).before a0 Z = true) (hf : rm.frames + 1 ≤ R.frames) (hl : W + (maxL + 11) + rm.locals ≤ R.locals) (hEL : EW Z a0 EL) (H : CHv Z EL vm0 h) :
    BackS l R p e below (s.setVm vm0) args y len W (fun A a => a = as' ∧ A.U.heap = h ∧ A.cells + rm.cells ≤ R.cells ∧ A.slots + rm.slots ≤ R.slots)
      (fun A _ v B => ∃ L, Q v B.U.heap L ∧ B.locs = A.locs ++ L ∧ B.cells = A.cells + rm.cells ∧ B.slots = A.slots + rm.slots) :=
  BackS.of_freeW (bytes := bytes) (maxL := maxL) (ret := ret) (E := fun _ _ o t L k n => k = rm.cells ∧ n = rm.slots ∧ ∃ v, o = .returned v ∧ Q v t.heap L) hM hf hl
    (fun m meth c A a Y hp => have hU : Z.Warmed39 A.U.vm := wtrans (s := s.setVm vm0) hZ Y.warmed
      ⟨by show (Jvm.Cond.and _ .tt).before a A.U = true; rw [Cond.before_and, mv hU wc]; rfl, mv hU wc, mv hU wz, hp.2.2.1, hp.2.2.2⟩)
    (fun m meth c A a g mk Y hp => ⟨hp.1, wtrans (s := s.setVm vm0) hZ Y.warmed, hp.2.1, (CHv.at Y hZ hEL H).1⟩) (fun _ _ _ _ _ _ _ _ _ => trivial)
    (fun _ _ _ _ ⟨v, L, h1, h2, h3⟩ => ⟨L, _, _, h3, rfl, rfl, v, h1, h2⟩)
    (fun m meth c A a g mk v t L k n Y hp _ _ ⟨e1, e2, v', e3, e4⟩ => by cases e3; subst e1 e2; exact ⟨L, e4, rfl, rfl, rfl⟩)
theorem own_sta_keep {C n d : String} {v : Value} (F : Sta Z h C n d v) (K : Keep h h' []) : Sta Z h' C n d v := by
  obtain ⟨cf, i, k, f, st, cell, h1, h2, h3, h4, h5, r⟩ := F
  exact ⟨cf, i, k, f, st, cell, h1, h2, h3, h4, K.2.1 _ _ h5 nin0, r⟩
theorem own_nar_ref {u : Value} {C : String} (hu : u.isRef = true) : narrow (.object C) u = u := by rcases ref_cases hu with rfl | ⟨z, rfl⟩ <;> rfl
theorem own_fit_ref {u : Value} {C : String} (hu : u.isRef = true) : fits (.object C) u = true := by rcases ref_cases hu with rfl | ⟨z, rfl⟩ <;> rfl
theorem own_no {a0 : Array Value} {C K O : String} {n : Nat} (w : (Jvm.Cond.superclass C O).before a0 Z = true) (wo : (Jvm.Cond.noSuperclass O).before a0 Z = true) (wk : (Jvm.Cond.instantiable K n).before a0 Z = true) (h1 : C ≠ K) (h2 : O ≠ K) : ∃ c t, Z.vm.findClass C = some c ∧ Z.vm.findClass K = some t ∧ Z.vm.assignable c t = false := by
  obtain ⟨o, ko, o1, o2, o3, -, -⟩ := Cond.noSuperclass_spec wo
  obtain ⟨t, kt, t1, t2, t3, t4, -⟩ := Cond.instantiable_spec wk
  obtain ⟨c, c0⟩ := found_sup w
  obtain ⟨p, k, kp, p1, p2, p3, p4, p5, -, p7⟩ := Cond.superclass_spec c0 w
  cases o1.symm.trans p1
  have ne1 := ids_ne c0 t1 h1
  have ne2 := ids_ne o1 t1 h2
  simp only [Bool.or_eq_false_iff] at t4
  have n3 : ∀ fuel, Z.vm.isSubclassAux fuel c t = false := fun fuel => by
    match fuel with
    | 0 => rfl
    | 1 => simp [Vm.isSubclassAux, ne1, p2, p4]
    | f + 2 => simp [Vm.isSubclassAux, ne1, ne2, p2, p4, o2, o3]
  refine ⟨c, t, c0, t1, ?_⟩
  show Z.vm.assignableAux (255 + 1) c t = false
  simp [Vm.assignableAux, ne1, p2, t2, p5, t3, t4.1, Vm.isSubclass, n3]
theorem own_selp {y : MethodName} {n : Nat} (hi : (Jvm.Cond.instantiable y.cls n).before args s = true) (hp : s.PrivateAt y) (hm : (Jvm.Cond.instanceMethod y).before args s = true) (hy : y.cls ≠ "java/lang/invoke/MethodHandle" ∧ y.cls ≠ "java/lang/invoke/VarHandle") : (Jvm.Cond.selects y.cls y y).before args s = true := by
  obtain ⟨c, k, h1, h2, h3, h4, -⟩ := Cond.instantiable_spec hi
  exact selects_self_of_private h1 h2 (by simp only [Bool.or_eq_false_iff] at h4; exact h4.1) hp hm hy
end Own

theorem own_lt {x y : Int32} (h : x.toInt < y.toInt) : x < y := Int32.lt_iff_toInt_lt.mpr h
theorem own_nlt {x y : Int32} (h : y.toInt ≤ x.toInt) : ¬ x < y := fun q => by have := Int32.lt_iff_toInt_lt.mp q; omega
theorem own_of_lt {x y : Int32} (h : x < y) : x.toInt < y.toInt := Int32.lt_iff_toInt_lt.mp h
theorem own_of_nlt {x y : Int32} (h : ¬ x < y) : y.toInt ≤ x.toInt := by rw [Int32.lt_iff_toInt_lt] at h; omega
theorem own_i0 : (0 : Int32).toInt = 0 := by decide
theorem own_i1 : (1 : Int32).toInt = 1 := by decide
theorem own_i2 : (2 : Int32).toInt = 2 := by decide
theorem own_i8 : (8 : Int32).toInt = 8 := by decide
theorem own_inc {x : Int32} (h0 : -2147483648 ≤ x.toInt) (h : x.toInt < 2147483647) : (x + (1 : Int32)).toInt = x.toInt + 1 := by
  have q := c_iadd x 1
  have r := rng32 (x + 1)
  have := own_i1
  omega
theorem own_clamp {x : Int32} (h : 0 ≤ x.toInt) : (x.toNatClampNeg : Int) = x.toInt := (nat_of (own_nlt (by rw [own_i0]; exact h))).symm
theorem own_set_same {vs : List Value} {i : Nat} {v d : Value} (h : i < vs.length) : (vs.set i v).getD i d = v := by simp [List.getD, h]
theorem own_set_ne {vs : List Value} {i j : Nat} {v d : Value} (h : i ≠ j) : (vs.set i v).getD j d = vs.getD j d := by simp [List.getD, List.getElem?_set, h]
/-- the smaller of two ints, as Math.min picks it -/
def own_min (x y : Int32) : Int32 := if y < x then y else x
theorem own_min_toInt (x y : Int32) : (own_min x y).toInt = min x.toInt y.toInt := by
  unfold own_min
  split
  · rename_i h; rw [Int32.lt_iff_toInt_lt] at h; omega
  · rename_i h; rw [Int32.lt_iff_toInt_lt] at h; omega


theorem own_nat {n : Nat} (h : n < 100) : (Int32.ofNat n).toInt = n := Int32.toInt_ofNat_of_lt (by omega)
theorem own_natc {n : Nat} (h : n < 100) : (Int32.ofNat n).toNatClampNeg = n := by
  have := own_clamp (x := Int32.ofNat n) (by rw [own_nat h]; omega)
  rw [own_nat h] at this; omega
theorem own_back {j : Int32} (h : 0 ≤ j.toInt) : Int32.ofNat j.toNatClampNeg = j := by
  have q := own_clamp h
  have r := rng32 j
  refine Int32.toInt_inj.mp ?_
  rw [Int32.toInt_ofNat_of_lt (by omega)]; exact q
theorem own_succ {n : Nat} (h : n < 99) : Int32.ofNat n + (1 : Int32) = Int32.ofNat (n + 1) := by
  refine Int32.toInt_inj.mp ?_
  rw [own_inc (by rw [own_nat (by omega)]; omega) (by rw [own_nat (by omega)]; omega), own_nat (by omega), own_nat (by omega)]; omega
theorem own_ofnat_lt {a b : Nat} (ha : a < 100) (hb : b < 100) : Int32.ofNat a < Int32.ofNat b ↔ a < b := by
  rw [Int32.lt_iff_toInt_lt, own_nat ha, own_nat hb]; omega
theorem own_vals {vs : List Value} {v w : Int32} {kk : Nat} (hl : kk < vs.length) (hI : ∀ i, i < kk → vs.getD i (.int (0 : Int32)) = .int (v + Int32.ofNat i * w)) : ∀ i, i < kk + 1 → (vs.set kk (.int (v + Int32.ofNat kk * w))).getD i (.int (0 : Int32)) = .int (v + Int32.ofNat i * w) := fun i hi => by
  by_cases e : i = kk
  · subst e; exact own_set_same hl
  · rw [own_set_ne (Ne.symm e)]; exact hI i (by omega)
theorem own_copy (vs : List Value) : ((List.replicate 16 (Value.int (0 : Int32))).take (0 : Int32).toNatClampNeg ++ ((List.range (8 : Int32).toNatClampNeg).map fun i => vs.getD ((0 : Int32).toNatClampNeg + i) (Value.int (0 : Int32))) ++ (List.replicate 16 (Value.int (0 : Int32))).drop ((0 : Int32).toNatClampNeg + (8 : Int32).toNatClampNeg)).length = 16 ∧
    ∀ i, i < 8 → ((List.replicate 16 (Value.int (0 : Int32))).take (0 : Int32).toNatClampNeg ++ ((List.range (8 : Int32).toNatClampNeg).map fun i => vs.getD ((0 : Int32).toNatClampNeg + i) (Value.int (0 : Int32))) ++ (List.replicate 16 (Value.int (0 : Int32))).drop ((0 : Int32).toNatClampNeg + (8 : Int32).toNatClampNeg)).getD i (Value.int (0 : Int32)) = vs.getD i (Value.int (0 : Int32)) := by
  rw [show (0 : Int32).toNatClampNeg = 0 from by decide, show (8 : Int32).toNatClampNeg = 8 from by decide]
  refine ⟨rfl, fun i hi => ?_⟩
  have c : i = 0 ∨ i = 1 ∨ i = 2 ∨ i = 3 ∨ i = 4 ∨ i = 5 ∨ i = 6 ∨ i = 7 := by omega
  rcases c with rfl | rfl | rfl | rfl | rfl | rfl | rfl | rfl <;> rfl
/-- a list of m ints, the i-th v + i * w, in an array of z places -/
def ILm (Z : State) (h : Heap) (n0 : Nat) (a : Addr) (v w : Int32) (m : Nat) (z : Int32) : Prop := ∃ (b : Addr) (k : ClassId) (vs : List Value), n0 ≤ b ∧ a ≠ b ∧ Exa Z h a "com/example/kwerx/kwerx/index/IntList" ∧ Fld Z h a "com/example/kwerx/kwerx/index/IntList" "values" "[I" (.ref b) ∧ Fld Z h a "com/example/kwerx/kwerx/index/IntList" "size" "I" (.int (Int32.ofNat m)) ∧ Arv Z h b k .int z vs (.int (0 : Int32)) ∧ (vs.length : Int) = z.toInt ∧ ∀ i, i < m → vs.getD i (.int (0 : Int32)) = .int (v + Int32.ofNat i * w)

theorem d_jdk_29_method_69_0 : decode jdk_29_method_69_code 0 = .ok (.iload_n 0, 1) := by decide +kernel
theorem d_jdk_29_method_69_1 : decode jdk_29_method_69_code 1 = .ok (.iload_n 1, 1) := by decide +kernel
theorem d_jdk_29_method_69_2 : decode jdk_29_method_69_code 2 = .ok (.if_icmp .gt 7, 3) := by decide +kernel
theorem d_jdk_29_method_69_9 : decode jdk_29_method_69_code 9 = .ok (.iload_n 1, 1) := by decide +kernel
theorem d_jdk_29_method_69_10 : decode jdk_29_method_69_code 10 = .ok (.ireturn, 1) := by decide +kernel
theorem d_jdk_29_method_69_5 : decode jdk_29_method_69_code 5 = .ok (.iload_n 0, 1) := by decide +kernel
theorem d_jdk_29_method_69_6 : decode jdk_29_method_69_code 6 = .ok (.goto 4, 3) := by decide +kernel
theorem ef_min (mt : MethodId) (x : Int32) (y : Int32) : entryFrame mt #[(.int x), (.int y)] 2 = mkF mt 0 #[.val (.int x), .val (.int y)] [] := by first | (simp [entryFrame, mkF, argsToLocals, Value.category]; done) | rfl
def Q_min (Z : State) (x : Int32) (y : Int32) (h0 : Heap) (n0 : Nat) (v : Option Value) (h : Heap) (L : List Loc) : Prop := v = some (.int (own_min x y)) ∧ Fr n0 L ∧ h = h0
set_option maxRecDepth 65536 in
set_option maxHeartbeats 40000000 in
theorem rm_min (l : Launch) (Z : State) (a0 : Array Value) (hw : ∀ d ∈ tables_1, d.before a0 Z = true) (ws : List Jvm.Cond) (x : Int32) (y : Int32) (h0 : Heap) (n0 : Nat) (Z0 : n0 ≤ h0.size) :
    MetFree l (⟨"java/lang/Math", "min", "(II)I"⟩ : MethodName) (head1 (Jvm.Cond.code (⟨"java/lang/Math", "min", "(II)I"⟩ : MethodName) jdk_29_method_69_code 2 (some .int) :: ws) ({ frames := 0, cells := 0, slots := 0, locals := 0 } : Room)) (fun aa UU => aa = #[(.int x), (.int y)] ∧ Z.Warmed39 UU.vm ∧ UU.heap = h0) (fun _ _ _ _ _ => True) (fun _ UU oo UU' => ∃ vv LL, oo = .returned vv ∧ Q_min Z x y h0 n0 vv UU'.heap LL ∧ FrameEnd UU oo UU' LL ({ frames := 0, cells := 0, slots := 0, locals := 0 } : Room).cells ({ frames := 0, cells := 0, slots := 0, locals := 0 } : Room).slots) := by
  refine MetFree.of_bodySF (Jvm.Free.JP.mathPlain rfl (by decide +kernel)) hisR ?_
  intro p e s mt args below meth cd s₁ Bd hml0 hP hK
  obtain ⟨hA, hZ, hh⟩ := hP
  have hx := Bd.exec
  have hby := Bd.bytes
  have hml : cd.maxLocals = 2 := hml0
  have hown : s.vm.findClass "java/lang/Math" = some mt.cls := findClass_of_methodNamed Bd.named
  have hnm := (name_of_methodNamed Bd.named Bd.method).1
  have hlk : meth.locks = false := BodyLoose.notSynchronized Bd
  have hrt := Bd.returns
  have X0 : Stand p l e ({ frames := 0, cells := 0, slots := 0, locals := 0 } : Room) s mt args below meth cd s₁ [] 0 0 := Stand.of_body Bd
  have e0 : s₁.heap = h0 := by rw [← hh, Bd.state]; rfl
  have N0 := Fr.nil n0
  show Win p e below (Ends s (Q_min Z x y h0 n0) ({ frames := 0, cells := 0, slots := 0, locals := 0 } : Room).cells ({ frames := 0, cells := 0, slots := 0, locals := 0 } : Room).slots) s₁ (entryFrame mt args 2)
  rw [hA, ef_min]
  refine Win.st ?_ (fun tq kq => XS.iloadN X0.here hx rfl (hb hby d_jdk_29_method_69_0) rfl kq)
  show Win p e below _ s₁ (mkF mt 1 #[.val (.int x), .val (.int y)] [(.int x)])
  refine Win.st ?_ (fun tq kq => XS.iloadN X0.here hx rfl (hb hby d_jdk_29_method_69_1) rfl kq)
  show Win p e below _ s₁ (mkF mt 2 #[.val (.int x), .val (.int y)] [(.int y), (.int x)])
  by_cases hc : y < x
  · refine Win.st ?_ (fun tq kq => XS.icmpYes X0.here hx rfl (pc0 := 2) (pc' := 9) rfl (hb hby d_jdk_29_method_69_2) rfl (tlt hc).2.2.1 (by decide) (by decide) kq)
    show Win p e below _ s₁ (mkF mt 9 #[.val (.int x), .val (.int y)] [])
    refine Win.st ?_ (fun tq kq => XS.iloadN X0.here hx rfl (hb hby d_jdk_29_method_69_9) rfl kq)
    show Win p e below _ s₁ (mkF mt 10 #[.val (.int x), .val (.int y)] [(.int y)])
    exact Win.ret X0 hx hlk e0 hrt rfl (Or.inl ⟨rfl, Or.inl rfl, _, rfl⟩) (hb hby d_jdk_29_method_69_10) (by decide) (by decide) ⟨by simp [own_min, hc], N0, rfl⟩
  · refine Win.st ?_ (fun tq kq => XS.icmpNo X0.here hx rfl (hb hby d_jdk_29_method_69_2) rfl (flt hc).2.2.1 kq)
    show Win p e below _ s₁ (mkF mt 5 #[.val (.int x), .val (.int y)] [])
    refine Win.st ?_ (fun tq kq => XS.iloadN X0.here hx rfl (hb hby d_jdk_29_method_69_5) rfl kq)
    show Win p e below _ s₁ (mkF mt 6 #[.val (.int x), .val (.int y)] [(.int x)])
    refine Win.st ?_ (fun tq kq => XS.goto X0.here hx rfl (pc0 := 6) (pc' := 10) rfl (hb hby d_jdk_29_method_69_6) (by decide) (by decide) kq)
    show Win p e below _ s₁ (mkF mt 10 #[.val (.int x), .val (.int y)] [(.int x)])
    exact Win.ret X0 hx hlk e0 hrt rfl (Or.inl ⟨rfl, Or.inl rfl, _, rfl⟩) (hb hby d_jdk_29_method_69_10) (by decide) (by decide) ⟨by simp [own_min, hc], N0, rfl⟩
theorem d_prog_51_method_1_0 : decode prog_51_method_1_code 0 = .ok (.aload_n 0, 1) := by decide +kernel
theorem d_prog_51_method_1_1 : decode prog_51_method_1_code 1 = .ok (.invokespecial 1, 3) := by decide +kernel
theorem d_prog_51_method_1_4 : decode prog_51_method_1_code 4 = .ok (.aload_n 0, 1) := by decide +kernel
theorem d_prog_51_method_1_5 : decode prog_51_method_1_code 5 = .ok (.bipush 8, 2) := by decide +kernel
theorem d_prog_51_method_1_7 : decode prog_51_method_1_code 7 = .ok (.newarray .int, 2) := by decide +kernel
theorem d_prog_51_method_1_9 : decode prog_51_method_1_code 9 = .ok (.putfield 7, 3) := by decide +kernel
theorem d_prog_51_method_1_12 : decode prog_51_method_1_code 12 = .ok (.return_, 1) := by decide +kernel
theorem pn_0 : plainName "com/example/kwerx/kwerx/index/IntList" = true := by first | (simp [plainName, overriddenIn]; done) | decide +kernel
theorem ef_ilinit (mt : MethodId) (a : Addr) : entryFrame mt #[(.ref a)] 1 = mkF mt 0 #[.val (.ref a)] [] := by first | (simp [entryFrame, mkF, argsToLocals, Value.category]; done) | rfl
def Q_ilinit (Z : State) (a : Addr) (h0 : Heap) (n0 : Nat) (v : Option Value) (h : Heap) (L : List Loc) : Prop := v = none ∧ Fr n0 L ∧ Keep h0 h [a] ∧ Fld Z h a "com/example/kwerx/kwerx/index/IntList" "size" "I" (.int (0 : Int32)) ∧ ∃ (b : Addr) (k : ClassId), n0 ≤ b ∧ a ≠ b ∧ Fld Z h a "com/example/kwerx/kwerx/index/IntList" "values" "[I" (.ref b) ∧ Arv Z h b k .int (8 : Int32) (List.replicate 8 (.int (0 : Int32))) (.int (0 : Int32))
set_option maxRecDepth 65536 in
set_option maxHeartbeats 40000000 in
theorem rm_ilinit (l : Launch) (Z : State) (a0 : Array Value) (hw : ∀ d ∈ tables_1, d.before a0 Z = true) (ws : List Jvm.Cond) (a : Addr) (h0 : Heap) (n0 : Nat) (Z0 : n0 ≤ h0.size) (E : Exa Z h0 a "com/example/kwerx/kwerx/index/IntList") (F1 : Fld Z h0 a "com/example/kwerx/kwerx/index/IntList" "values" "[I" .null) (F2 : Fld Z h0 a "com/example/kwerx/kwerx/index/IntList" "size" "I" (.int (0 : Int32))) (ga : n0 ≤ a) :
    MetFree l (⟨"com/example/kwerx/kwerx/index/IntList", "<init>", "()V"⟩ : MethodName) (head1 (Jvm.Cond.code (⟨"com/example/kwerx/kwerx/index/IntList", "<init>", "()V"⟩ : MethodName) prog_51_method_1_code 1 none :: ws) ({ frames := 1, cells := 1, slots := 8, locals := 12 } : Room)) (fun aa UU => aa = #[(.ref a)] ∧ Z.Warmed39 UU.vm ∧ UU.heap = h0) (fun _ _ _ _ _ => True) (fun _ UU oo UU' => ∃ vv LL, oo = .returned vv ∧ Q_ilinit Z a h0 n0 vv UU'.heap LL ∧ FrameEnd UU oo UU' LL ({ frames := 1, cells := 1, slots := 8, locals := 12 } : Room).cells ({ frames := 1, cells := 1, slots := 8, locals := 12 } : Room).slots) := by
  refine MetFree.of_bodySF (plainFor_of_name pn_0) hisR ?_
  intro p e s mt args below meth cd s₁ Bd hml0 hP hK
  obtain ⟨hA, hZ, hh⟩ := hP
  have hx := Bd.exec
  have hby := Bd.bytes
  have hml : cd.maxLocals = 1 := hml0
  have hown : s.vm.findClass "com/example/kwerx/kwerx/index/IntList" = some mt.cls := findClass_of_methodNamed Bd.named
  have hnm := (name_of_methodNamed Bd.named Bd.method).1
  have hlk : meth.locks = false := BodyLoose.notSynchronized Bd
  have hrt := Bd.returns
  have X0 : Stand p l e ({ frames := 1, cells := 1, slots := 8, locals := 12 } : Room) s mt args below meth cd s₁ [] 0 0 := Stand.of_body Bd
  have e0 : s₁.heap = h0 := by rw [← hh, Bd.state]; rfl
  have N0 := Fr.nil n0
  show Win p e below (Ends s (Q_ilinit Z a h0 n0) ({ frames := 1, cells := 1, slots := 8, locals := 12 } : Room).cells ({ frames := 1, cells := 1, slots := 8, locals := 12 } : Room).slots) s₁ (entryFrame mt args 1)
  rw [hA, ef_ilinit]
  refine Win.st ?_ (fun tq kq => XS.aloadN X0.here hx rfl (hb hby d_prog_51_method_1_0) rfl rfl kq)
  show Win p e below _ s₁ (mkF mt 1 #[.val (.ref a)] [(.ref a)])
  obtain ⟨T11, X11, e11, st11⟩ := initO X0 hx hZ hown (hw _ (List.mem_of_getElem? (i := 7) rfl)) (hw _ (List.mem_of_getElem? (i := 8) rfl)) (hw _ (List.mem_of_getElem? (i := 9) rfl)) e0 (g := (mkF mt 1 #[.val (.ref a)] [(.ref a)])) rfl (by rw [hml]; rfl) rfl (hb hby d_prog_51_method_1_1) (by decide) (W := 0) (by show 2 * 0 + _ ≤ _; exact Nat.le_of_eq rfl) (by decide)
  refine Win.st ?_ st11
  show Win p e below _ T11 (mkF mt 4 #[.val (.ref a)] [])
  refine Win.st ?_ (fun tq kq => XS.aloadN X11.here hx rfl (hb hby d_prog_51_method_1_4) rfl rfl kq)
  show Win p e below _ T11 (mkF mt 5 #[.val (.ref a)] [(.ref a)])
  refine Win.st ?_ (fun tq kq => XS.bipush X11.here hx rfl (hb hby d_prog_51_method_1_5) kq)
  show Win p e below _ T11 (mkF mt 7 #[.val (.ref a)] [(.int (8 : Int32)), (.ref a)])
  obtain ⟨T12, h12, k12, X12, e12, E12, A12, st12⟩ := newP X11 hx hZ (hw _ (List.mem_of_getElem? (i := 10) rfl)) e11 (g := (mkF mt 7 #[.val (.ref a)] [(.int (8 : Int32)), (.ref a)])) rfl (hb hby d_prog_51_method_1_7) rfl (by decide) (cap := 8) (by decide) (by decide) (by decide) (by decide)
  obtain ⟨b12, gq12⟩ : ∃ z, z = h0.size := ⟨_, rfl⟩
  rw [← gq12] at A12 st12
  have ne13 : a ≠ b12 := own_new gq12 E.lt
  have g14 : n0 ≤ b12 := own_newle Z0 gq12
  have z15 : h0.size ≤ b12 := own_newle (Keep.refl h0 [a]).1 gq12
  have ke12 := own_kext E12
  replace X12 : Stand p l e _ s mt args below meth cd T12 _ 1 8 := X12
  have f16_17 := E.keep ke12
  have f16_18 := F1.keep ke12 nin0
  have f16_19 := F2.keep ke12 nin0
  have Z17 : n0 ≤ h12.size := Nat.le_trans Z0 ke12.1
  have K18 : Keep h0 h12 [a] := Keep.trans (Keep.refl h0 [a]) ke12 all0
  have V12 : Arv Z h12 b12 k12 .int (8 : Int32) [(.int (0 : Int32)), (.int (0 : Int32)), (.int (0 : Int32)), (.int (0 : Int32)), (.int (0 : Int32)), (.int (0 : Int32)), (.int (0 : Int32)), (.int (0 : Int32))] (.int (0 : Int32)) := (Arv.new A12 (by decide)).pad (pad_rep [] (.int (0 : Int32)) 8)
  refine Win.st ?_ st12
  show Win p e below _ T12 (mkF mt 9 #[.val (.ref a)] [(.ref b12), (.ref a)])
  obtain ⟨T19, h19, X19, e19, W19, st19⟩ := putF X12 hx hZ hown (host := "") (Or.inl (hw _ (List.mem_of_getElem? (i := 11) rfl))) Via.refl e12 f16_18 f16_17 (Or.inl (hw _ (List.mem_of_getElem? (i := 12) rfl))) (hw _ (List.mem_of_getElem? (i := 2) rfl)) (ty := (.array .int)) (by decide) rfl rfl (g := (mkF mt 9 #[.val (.ref a)] [(.ref b12), (.ref a)])) rfl rfl (hb hby d_prog_51_method_1_9)
  obtain ⟨L19, X19, N19⟩ := own_hide X19 N0 ga
  have kp19 := Keep.of_wr W19
  have fw19 := f16_18.same W19
  have f19_29 := f16_19.other W19 (Or.inr (slot_ne (Or.inl (hw _ (List.mem_of_getElem? (i := 23) rfl))) (Or.inl (hw _ (List.mem_of_getElem? (i := 12) rfl))) (by decide) (t := .int) (t' := (.array .int)) (by decide) (by decide)))
  have f20_30 := f16_17.keep kp19
  have f20_31 := V12.keep kp19 (ninS (Ne.symm ne13) nin0)
  have Z21 : n0 ≤ h19.size := Nat.le_trans Z17 kp19.1
  have K22 : Keep h0 h19 [a] := Keep.trans K18 kp19 (allS (Or.inl (List.mem_of_getElem? (i := 0) rfl)) all0)
  refine Win.st ?_ st19
  show Win p e below _ T19 (mkF mt 12 #[.val (.ref a)] [])
  exact Win.retV X19 hx hlk e19 hrt (hb hby d_prog_51_method_1_12) (by decide) (by decide) ⟨rfl, N19, K22, f19_29, b12, _, g14, ne13, fw19, f20_31⟩
theorem d_prog_51_method_6_0 : decode prog_51_method_6_code 0 = .ok (.aload_n 0, 1) := by decide +kernel
theorem d_prog_51_method_6_1 : decode prog_51_method_6_code 1 = .ok (.getfield 13, 3) := by decide +kernel
theorem d_prog_51_method_6_4 : decode prog_51_method_6_code 4 = .ok (.ireturn, 1) := by decide +kernel
theorem ef_ilsize (mt : MethodId) (a : Addr) : entryFrame mt #[(.ref a)] 1 = mkF mt 0 #[.val (.ref a)] [] := by first | (simp [entryFrame, mkF, argsToLocals, Value.category]; done) | rfl
def Q_ilsize (Z : State) (a : Addr) (n : Int32) (h0 : Heap) (n0 : Nat) (v : Option Value) (h : Heap) (L : List Loc) : Prop := v = some (.int n) ∧ Fr n0 L ∧ h = h0
set_option maxRecDepth 65536 in
set_option maxHeartbeats 40000000 in
theorem rm_ilsize (l : Launch) (Z : State) (a0 : Array Value) (hw : ∀ d ∈ tables_1, d.before a0 Z = true) (ws : List Jvm.Cond) (a : Addr) (n : Int32) (h0 : Heap) (n0 : Nat) (Z0 : n0 ≤ h0.size) (F2 : Fld Z h0 a "com/example/kwerx/kwerx/index/IntList" "size" "I" (.int n)) :
    MetFree l (⟨"com/example/kwerx/kwerx/index/IntList", "size", "()I"⟩ : MethodName) (head1 (Jvm.Cond.code (⟨"com/example/kwerx/kwerx/index/IntList", "size", "()I"⟩ : MethodName) prog_51_method_6_code 1 (some .int) :: ws) ({ frames := 0, cells := 0, slots := 0, locals := 0 } : Room)) (fun aa UU => aa = #[(.ref a)] ∧ Z.Warmed39 UU.vm ∧ UU.heap = h0) (fun _ _ _ _ _ => True) (fun _ UU oo UU' => ∃ vv LL, oo = .returned vv ∧ Q_ilsize Z a n h0 n0 vv UU'.heap LL ∧ FrameEnd UU oo UU' LL ({ frames := 0, cells := 0, slots := 0, locals := 0 } : Room).cells ({ frames := 0, cells := 0, slots := 0, locals := 0 } : Room).slots) := by
  refine MetFree.of_bodySF (plainFor_of_name pn_0) hisR ?_
  intro p e s mt args below meth cd s₁ Bd hml0 hP hK
  obtain ⟨hA, hZ, hh⟩ := hP
  have hx := Bd.exec
  have hby := Bd.bytes
  have hml : cd.maxLocals = 1 := hml0
  have hown : s.vm.findClass "com/example/kwerx/kwerx/index/IntList" = some mt.cls := findClass_of_methodNamed Bd.named
  have hnm := (name_of_methodNamed Bd.named Bd.method).1
  have hlk : meth.locks = false := BodyLoose.notSynchronized Bd
  have hrt := Bd.returns
  have X0 : Stand p l e ({ frames := 0, cells := 0, slots := 0, locals := 0 } : Room) s mt args below meth cd s₁ [] 0 0 := Stand.of_body Bd
  have e0 : s₁.heap = h0 := by rw [← hh, Bd.state]; rfl
  have N0 := Fr.nil n0
  show Win p e below (Ends s (Q_ilsize Z a n h0 n0) ({ frames := 0, cells := 0, slots := 0, locals := 0 } : Room).cells ({ frames := 0, cells := 0, slots := 0, locals := 0 } : Room).slots) s₁ (entryFrame mt args 1)
  rw [hA, ef_ilsize]
  refine Win.st ?_ (fun tq kq => XS.aloadN X0.here hx rfl (hb hby d_prog_51_method_6_0) rfl rfl kq)
  show Win p e below _ s₁ (mkF mt 1 #[.val (.ref a)] [(.ref a)])
  obtain ⟨T23, X23, e23, st23⟩ := getF X0 hx hZ hown (host := "") (Or.inl (hw _ (List.mem_of_getElem? (i := 22) rfl))) Via.refl e0 F2 (g := (mkF mt 1 #[.val (.ref a)] [(.ref a)])) rfl rfl (hb hby d_prog_51_method_6_1)
  refine Win.st ?_ st23
  show Win p e below _ T23 (mkF mt 4 #[.val (.ref a)] [(.int n)])
  exact Win.ret X23 hx hlk e23 hrt rfl (Or.inl ⟨rfl, Or.inl rfl, _, rfl⟩) (hb hby d_prog_51_method_6_4) (by decide) (by decide) ⟨rfl, N0, rfl⟩
theorem d_prog_51_method_3_0 : decode prog_51_method_3_code 0 = .ok (.aload_n 0, 1) := by decide +kernel
theorem d_prog_51_method_3_1 : decode prog_51_method_3_code 1 = .ok (.getfield 7, 3) := by decide +kernel
theorem d_prog_51_method_3_4 : decode prog_51_method_3_code 4 = .ok (.iload_n 1, 1) := by decide +kernel
theorem d_prog_51_method_3_5 : decode prog_51_method_3_code 5 = .ok (.iaload, 1) := by decide +kernel
theorem d_prog_51_method_3_6 : decode prog_51_method_3_code 6 = .ok (.ireturn, 1) := by decide +kernel
theorem ef_ilget (mt : MethodId) (a : Addr) (j : Int32) : entryFrame mt #[(.ref a), (.int j)] 2 = mkF mt 0 #[.val (.ref a), .val (.int j)] [] := by first | (simp [entryFrame, mkF, argsToLocals, Value.category]; done) | rfl
def Q_ilget (Z : State) (a : Addr) (j : Int32) (b : Addr) (k : ClassId) (z : Int32) (vs : List Value) (x : Int32) (h0 : Heap) (n0 : Nat) (v : Option Value) (h : Heap) (L : List Loc) : Prop := v = some (.int x) ∧ Fr n0 L ∧ h = h0
set_option maxRecDepth 65536 in
set_option maxHeartbeats 40000000 in
theorem rm_ilget (l : Launch) (Z : State) (a0 : Array Value) (hw : ∀ d ∈ tables_1, d.before a0 Z = true) (ws : List Jvm.Cond) (a : Addr) (j : Int32) (b : Addr) (k : ClassId) (z : Int32) (vs : List Value) (x : Int32) (h0 : Heap) (n0 : Nat) (Z0 : n0 ≤ h0.size) (F1 : Fld Z h0 a "com/example/kwerx/kwerx/index/IntList" "values" "[I" (.ref b)) (V : Arv Z h0 b k .int z vs (.int (0 : Int32))) (h1 : ¬ j < 0) (h2 : j < z) (hv : vs.getD j.toNatClampNeg (.int (0 : Int32)) = .int x) :
    MetFree l (⟨"com/example/kwerx/kwerx/index/IntList", "get", "(I)I"⟩ : MethodName) (head1 (Jvm.Cond.code (⟨"com/example/kwerx/kwerx/index/IntList", "get", "(I)I"⟩ : MethodName) prog_51_method_3_code 2 (some .int) :: ws) ({ frames := 0, cells := 0, slots := 0, locals := 0 } : Room)) (fun aa UU => aa = #[(.ref a), (.int j)] ∧ Z.Warmed39 UU.vm ∧ UU.heap = h0) (fun _ _ _ _ _ => True) (fun _ UU oo UU' => ∃ vv LL, oo = .returned vv ∧ Q_ilget Z a j b k z vs x h0 n0 vv UU'.heap LL ∧ FrameEnd UU oo UU' LL ({ frames := 0, cells := 0, slots := 0, locals := 0 } : Room).cells ({ frames := 0, cells := 0, slots := 0, locals := 0 } : Room).slots) := by
  refine MetFree.of_bodySF (plainFor_of_name pn_0) hisR ?_
  intro p e s mt args below meth cd s₁ Bd hml0 hP hK
  obtain ⟨hA, hZ, hh⟩ := hP
  have hx := Bd.exec
  have hby := Bd.bytes
  have hml : cd.maxLocals = 2 := hml0
  have hown : s.vm.findClass "com/example/kwerx/kwerx/index/IntList" = some mt.cls := findClass_of_methodNamed Bd.named
  have hnm := (name_of_methodNamed Bd.named Bd.method).1
  have hlk : meth.locks = false := BodyLoose.notSynchronized Bd
  have hrt := Bd.returns
  have X0 : Stand p l e ({ frames := 0, cells := 0, slots := 0, locals := 0 } : Room) s mt args below meth cd s₁ [] 0 0 := Stand.of_body Bd
  have e0 : s₁.heap = h0 := by rw [← hh, Bd.state]; rfl
  have N0 := Fr.nil n0
  show Win p e below (Ends s (Q_ilget Z a j b k z vs x h0 n0) ({ frames := 0, cells := 0, slots := 0, locals := 0 } : Room).cells ({ frames := 0, cells := 0, slots := 0, locals := 0 } : Room).slots) s₁ (entryFrame mt args 2)
  rw [hA, ef_ilget]
  refine Win.st ?_ (fun tq kq => XS.aloadN X0.here hx rfl (hb hby d_prog_51_method_3_0) rfl rfl kq)
  show Win p e below _ s₁ (mkF mt 1 #[.val (.ref a), .val (.int j)] [(.ref a)])
  obtain ⟨T24, X24, e24, st24⟩ := getF X0 hx hZ hown (host := "") (Or.inl (hw _ (List.mem_of_getElem? (i := 11) rfl))) Via.refl e0 F1 (g := (mkF mt 1 #[.val (.ref a), .val (.int j)] [(.ref a)])) rfl rfl (hb hby d_prog_51_method_3_1)
  refine Win.st ?_ st24
  show Win p e below _ T24 (mkF mt 4 #[.val (.ref a), .val (.int j)] [(.ref b)])
  refine Win.st ?_ (fun tq kq => XS.iloadN X24.here hx rfl (hb hby d_prog_51_method_3_4) rfl kq)
  show Win p e below _ T24 (mkF mt 5 #[.val (.ref a), .val (.int j)] [(.int j), (.ref b)])
  refine Win.st ?_ (own_iald (g := (mkF mt 5 #[.val (.ref a), .val (.int j)] [(.int j), (.ref b)])) X24 hx hZ e24 V (j := j) (v := (.int x)) h1 h2 hv rfl rfl (hb hby d_prog_51_method_3_5))
  show Win p e below _ T24 (mkF mt 6 #[.val (.ref a), .val (.int j)] [(.int x)])
  exact Win.ret X24 hx hlk e24 hrt rfl (Or.inl ⟨rfl, Or.inl rfl, _, rfl⟩) (hb hby d_prog_51_method_3_6) (by decide) (by decide) ⟨rfl, N0, rfl⟩
theorem d_prog_51_method_2_0 : decode prog_51_method_2_code 0 = .ok (.aload_n 0, 1) := by decide +kernel
theorem d_prog_51_method_2_1 : decode prog_51_method_2_code 1 = .ok (.getfield 13, 3) := by decide +kernel
theorem d_prog_51_method_2_4 : decode prog_51_method_2_code 4 = .ok (.aload_n 0, 1) := by decide +kernel
theorem d_prog_51_method_2_5 : decode prog_51_method_2_code 5 = .ok (.getfield 7, 3) := by decide +kernel
theorem d_prog_51_method_2_8 : decode prog_51_method_2_code 8 = .ok (.arraylength, 1) := by decide +kernel
theorem d_prog_51_method_2_9 : decode prog_51_method_2_code 9 = .ok (.if_icmp .ne 20, 3) := by decide +kernel
theorem d_prog_51_method_2_29 : decode prog_51_method_2_code 29 = .ok (.aload_n 0, 1) := by decide +kernel
theorem d_prog_51_method_2_30 : decode prog_51_method_2_code 30 = .ok (.getfield 7, 3) := by decide +kernel
theorem d_prog_51_method_2_33 : decode prog_51_method_2_code 33 = .ok (.aload_n 0, 1) := by decide +kernel
theorem d_prog_51_method_2_34 : decode prog_51_method_2_code 34 = .ok (.dup, 1) := by decide +kernel
theorem d_prog_51_method_2_35 : decode prog_51_method_2_code 35 = .ok (.getfield 13, 3) := by decide +kernel
theorem d_prog_51_method_2_38 : decode prog_51_method_2_code 38 = .ok (.dup_x1, 1) := by decide +kernel
theorem d_prog_51_method_2_39 : decode prog_51_method_2_code 39 = .ok (.iconst 1, 1) := by decide +kernel
theorem d_prog_51_method_2_40 : decode prog_51_method_2_code 40 = .ok (.iadd, 1) := by decide +kernel
theorem d_prog_51_method_2_41 : decode prog_51_method_2_code 41 = .ok (.putfield 13, 3) := by decide +kernel
theorem d_prog_51_method_2_44 : decode prog_51_method_2_code 44 = .ok (.iload_n 1, 1) := by decide +kernel
theorem d_prog_51_method_2_45 : decode prog_51_method_2_code 45 = .ok (.iastore, 1) := by decide +kernel
theorem d_prog_51_method_2_46 : decode prog_51_method_2_code 46 = .ok (.return_, 1) := by decide +kernel
theorem ef_iladd (mt : MethodId) (a : Addr) (x : Int32) : entryFrame mt #[(.ref a), (.int x)] 2 = mkF mt 0 #[.val (.ref a), .val (.int x)] [] := by first | (simp [entryFrame, mkF, argsToLocals, Value.category]; done) | rfl
def Q_iladd (Z : State) (a : Addr) (x : Int32) (b : Addr) (k : ClassId) (z : Int32) (n : Int32) (vs : List Value) (h0 : Heap) (n0 : Nat) (v : Option Value) (h : Heap) (L : List Loc) : Prop := v = none ∧ Fr n0 L ∧ Keep h0 h [a, b] ∧ Fld Z h a "com/example/kwerx/kwerx/index/IntList" "values" "[I" (.ref b) ∧ Fld Z h a "com/example/kwerx/kwerx/index/IntList" "size" "I" (.int (n + (1 : Int32))) ∧ Arv Z h b k .int z (vs.set n.toNatClampNeg (.int x)) (.int (0 : Int32))
set_option maxRecDepth 65536 in
set_option maxHeartbeats 40000000 in
theorem rm_iladd (l : Launch) (Z : State) (a0 : Array Value) (hw : ∀ d ∈ tables_1, d.before a0 Z = true) (ws : List Jvm.Cond) (a : Addr) (x : Int32) (b : Addr) (k : ClassId) (z : Int32) (n : Int32) (vs : List Value) (h0 : Heap) (n0 : Nat) (Z0 : n0 ≤ h0.size) (E : Exa Z h0 a "com/example/kwerx/kwerx/index/IntList") (F1 : Fld Z h0 a "com/example/kwerx/kwerx/index/IntList" "values" "[I" (.ref b)) (F2 : Fld Z h0 a "com/example/kwerx/kwerx/index/IntList" "size" "I" (.int n)) (V : Arv Z h0 b k .int z vs (.int (0 : Int32))) (h1 : ¬ n < 0) (h2 : n < z) (hl : n.toNatClampNeg < vs.length) (ga : n0 ≤ a) (gb : n0 ≤ b) (nab : a ≠ b) :
    MetFree l (⟨"com/example/kwerx/kwerx/index/IntList", "add", "(I)V"⟩ : MethodName) (head1 (Jvm.Cond.code (⟨"com/example/kwerx/kwerx/index/IntList", "add", "(I)V"⟩ : MethodName) prog_51_method_2_code 2 none :: ws) ({ frames := 0, cells := 0, slots := 0, locals := 0 } : Room)) (fun aa UU => aa = #[(.ref a), (.int x)] ∧ Z.Warmed39 UU.vm ∧ UU.heap = h0) (fun _ _ _ _ _ => True) (fun _ UU oo UU' => ∃ vv LL, oo = .returned vv ∧ Q_iladd Z a x b k z n vs h0 n0 vv UU'.heap LL ∧ FrameEnd UU oo UU' LL ({ frames := 0, cells := 0, slots := 0, locals := 0 } : Room).cells ({ frames := 0, cells := 0, slots := 0, locals := 0 } : Room).slots) := by
  refine MetFree.of_bodySF (plainFor_of_name pn_0) hisR ?_
  intro p e s mt args below meth cd s₁ Bd hml0 hP hK
  obtain ⟨hA, hZ, hh⟩ := hP
  have hx := Bd.exec
  have hby := Bd.bytes
  have hml : cd.maxLocals = 2 := hml0
  have hown : s.vm.findClass "com/example/kwerx/kwerx/index/IntList" = some mt.cls := findClass_of_methodNamed Bd.named
  have hnm := (name_of_methodNamed Bd.named Bd.method).1
  have hlk : meth.locks = false := BodyLoose.notSynchronized Bd
  have hrt := Bd.returns
  have X0 : Stand p l e ({ frames := 0, cells := 0, slots := 0, locals := 0 } : Room) s mt args below meth cd s₁ [] 0 0 := Stand.of_body Bd
  have e0 : s₁.heap = h0 := by rw [← hh, Bd.state]; rfl
  have N0 := Fr.nil n0
  show Win p e below (Ends s (Q_iladd Z a x b k z n vs h0 n0) ({ frames := 0, cells := 0, slots := 0, locals := 0 } : Room).cells ({ frames := 0, cells := 0, slots := 0, locals := 0 } : Room).slots) s₁ (entryFrame mt args 2)
  rw [hA, ef_iladd]
  refine Win.st ?_ (fun tq kq => XS.aloadN X0.here hx rfl (hb hby d_prog_51_method_2_0) rfl rfl kq)
  show Win p e below _ s₁ (mkF mt 1 #[.val (.ref a), .val (.int x)] [(.ref a)])
  obtain ⟨T25, X25, e25, st25⟩ := getF X0 hx hZ hown (host := "") (Or.inl (hw _ (List.mem_of_getElem? (i := 22) rfl))) Via.refl e0 F2 (g := (mkF mt 1 #[.val (.ref a), .val (.int x)] [(.ref a)])) rfl rfl (hb hby d_prog_51_method_2_1)
  refine Win.st ?_ st25
  show Win p e below _ T25 (mkF mt 4 #[.val (.ref a), .val (.int x)] [(.int n)])
  refine Win.st ?_ (fun tq kq => XS.aloadN X25.here hx rfl (hb hby d_prog_51_method_2_4) rfl rfl kq)
  show Win p e below _ T25 (mkF mt 5 #[.val (.ref a), .val (.int x)] [(.ref a), (.int n)])
  obtain ⟨T26, X26, e26, st26⟩ := getF X25 hx hZ hown (host := "") (Or.inl (hw _ (List.mem_of_getElem? (i := 11) rfl))) Via.refl e25 F1 (g := (mkF mt 5 #[.val (.ref a), .val (.int x)] [(.ref a), (.int n)])) rfl rfl (hb hby d_prog_51_method_2_5)
  refine Win.st ?_ st26
  show Win p e below _ T26 (mkF mt 8 #[.val (.ref a), .val (.int x)] [(.ref b), (.int n)])
  refine Win.st ?_ (own_alen (g := (mkF mt 8 #[.val (.ref a), .val (.int x)] [(.ref b), (.int n)])) X26 hx hZ e26 V rfl rfl (hb hby d_prog_51_method_2_8))
  show Win p e below _ T26 (mkF mt 9 #[.val (.ref a), .val (.int x)] [(.int z), (.int n)])
  refine Win.st ?_ (fun tq kq => XS.icmpYes X26.here hx rfl (pc0 := 9) (pc' := 29) rfl (hb hby d_prog_51_method_2_9) rfl (feq (fun q => by rw [q] at h2; exact absurd h2 Int32.lt_irrefl)).2 (by decide) (by decide) kq)
  show Win p e below _ T26 (mkF mt 29 #[.val (.ref a), .val (.int x)] [])
  refine Win.st ?_ (fun tq kq => XS.aloadN X26.here hx rfl (hb hby d_prog_51_method_2_29) rfl rfl kq)
  show Win p e below _ T26 (mkF mt 30 #[.val (.ref a), .val (.int x)] [(.ref a)])
  obtain ⟨T27, X27, e27, st27⟩ := getF X26 hx hZ hown (host := "") (Or.inl (hw _ (List.mem_of_getElem? (i := 11) rfl))) Via.refl e26 F1 (g := (mkF mt 30 #[.val (.ref a), .val (.int x)] [(.ref a)])) rfl rfl (hb hby d_prog_51_method_2_30)
  refine Win.st ?_ st27
  show Win p e below _ T27 (mkF mt 33 #[.val (.ref a), .val (.int x)] [(.ref b)])
  refine Win.st ?_ (fun tq kq => XS.aloadN X27.here hx rfl (hb hby d_prog_51_method_2_33) rfl rfl kq)
  show Win p e below _ T27 (mkF mt 34 #[.val (.ref a), .val (.int x)] [(.ref a), (.ref b)])
  refine Win.st ?_ (fun tq kq => XS.dup X27.here hx rfl (hb hby d_prog_51_method_2_34) rfl rfl kq)
  show Win p e below _ T27 (mkF mt 35 #[.val (.ref a), .val (.int x)] [(.ref a), (.ref a), (.ref b)])
  obtain ⟨T28, X28, e28, st28⟩ := getF X27 hx hZ hown (host := "") (Or.inl (hw _ (List.mem_of_getElem? (i := 22) rfl))) Via.refl e27 F2 (g := (mkF mt 35 #[.val (.ref a), .val (.int x)] [(.ref a), (.ref a), (.ref b)])) rfl rfl (hb hby d_prog_51_method_2_35)
  refine Win.st ?_ st28
  show Win p e below _ T28 (mkF mt 38 #[.val (.ref a), .val (.int x)] [(.int n), (.ref a), (.ref b)])
  refine Win.st ?_ (fun tq kq => XS.dupX1 X28.here hx rfl (hb hby d_prog_51_method_2_38) rfl rfl rfl kq)
  show Win p e below _ T28 (mkF mt 39 #[.val (.ref a), .val (.int x)] [(.int n), (.ref a), (.int n), (.ref b)])
  refine Win.st ?_ (fun tq kq => XS.iconst X28.here hx rfl (hb hby d_prog_51_method_2_39) kq)
  show Win p e below _ T28 (mkF mt 40 #[.val (.ref a), .val (.int x)] [(.int (1 : Int32)), (.int n), (.ref a), (.int n), (.ref b)])
  refine Win.st ?_ (fun tq kq => XS.iadd X28.here hx rfl (hb hby d_prog_51_method_2_40) rfl kq)
  show Win p e below _ T28 (mkF mt 41 #[.val (.ref a), .val (.int x)] [(.int (n + (1 : Int32))), (.ref a), (.int n), (.ref b)])
  obtain ⟨T29, h29, X29, e29, W29, st29⟩ := putF X28 hx hZ hown (host := "") (Or.inl (hw _ (List.mem_of_getElem? (i := 22) rfl))) Via.refl e28 F2 E (Or.inl (hw _ (List.mem_of_getElem? (i := 23) rfl))) (hw _ (List.mem_of_getElem? (i := 2) rfl)) (ty := .int) (by decide) rfl rfl (g := (mkF mt 41 #[.val (.ref a), .val (.int x)] [(.int (n + (1 : Int32))), (.ref a), (.int n), (.ref b)])) rfl rfl (hb hby d_prog_51_method_2_41)
  obtain ⟨L29, X29, N29⟩ := own_hide X29 N0 ga
  have kp29 := Keep.of_wr W29
  have f29_35 := F1.other W29 (Or.inr (slot_ne (Or.inl (hw _ (List.mem_of_getElem? (i := 12) rfl))) (Or.inl (hw _ (List.mem_of_getElem? (i := 23) rfl))) (by decide) (t := (.array .int)) (t' := .int) (by decide) (by decide)))
  have fw29 := F2.same W29
  have f30_37 := E.keep kp29
  have f30_38 := V.keep kp29 (ninS (Ne.symm nab) nin0)
  have Z31 : n0 ≤ h29.size := Nat.le_trans Z0 kp29.1
  have K32 : Keep h0 h29 [a, b] := Keep.trans (Keep.refl h0 [a, b]) kp29 (allS (Or.inl (List.mem_of_getElem? (i := 0) rfl)) all0)
  refine Win.st ?_ st29
  show Win p e below _ T29 (mkF mt 44 #[.val (.ref a), .val (.int x)] [(.int n), (.ref b)])
  refine Win.st ?_ (fun tq kq => XS.iloadN X29.here hx rfl (hb hby d_prog_51_method_2_44) rfl kq)
  show Win p e below _ T29 (mkF mt 45 #[.val (.ref a), .val (.int x)] [(.int x), (.int n), (.ref b)])
  obtain ⟨T33, h33, L33, X33, N33, e33, kp33, V33, st33⟩ := own_iast (g := (mkF mt 45 #[.val (.ref a), .val (.int x)] [(.int x), (.int n), (.ref b)])) X29 hx hZ e29 N29 gb f30_38 (j := n) h1 h2 (i := n.toNatClampNeg) rfl hl rfl rfl (hb hby d_prog_51_method_2_45)
  have f34_46 := f30_37.keep kp33
  have f34_47 := f29_35.keep kp33 (ninS nab nin0)
  have f34_48 := fw29.keep kp33 (ninS nab nin0)
  have Z35 : n0 ≤ h33.size := Nat.le_trans Z31 kp33.1
  have K36 : Keep h0 h33 [a, b] := Keep.trans K32 kp33 (allS (Or.inl (List.mem_of_getElem? (i := 1) rfl)) all0)
  refine Win.st ?_ st33
  show Win p e below _ T33 (mkF mt 46 #[.val (.ref a), .val (.int x)] [])
  exact Win.retV X33 hx hlk e33 hrt (hb hby d_prog_51_method_2_46) (by decide) (by decide) ⟨rfl, N33, K36, f34_47, f34_48, V33⟩
theorem d_jdk_65_method_123_0 : decode jdk_65_method_123_code 0 = .ok (.iload_n 1, 1) := by decide +kernel
theorem d_jdk_65_method_123_1 : decode jdk_65_method_123_code 1 = .ok (.aload_n 0, 1) := by decide +kernel
theorem d_jdk_65_method_123_2 : decode jdk_65_method_123_code 2 = .ok (.arraylength, 1) := by decide +kernel
theorem d_jdk_65_method_123_3 : decode jdk_65_method_123_code 3 = .ok (.if_icmp .ne 11, 3) := by decide +kernel
theorem d_jdk_65_method_123_14 : decode jdk_65_method_123_code 14 = .ok (.iload_n 1, 1) := by decide +kernel
theorem d_jdk_65_method_123_15 : decode jdk_65_method_123_code 15 = .ok (.newarray .int, 2) := by decide +kernel
theorem d_jdk_65_method_123_17 : decode jdk_65_method_123_code 17 = .ok (.astore_n 2, 1) := by decide +kernel
theorem d_jdk_65_method_123_18 : decode jdk_65_method_123_code 18 = .ok (.aload_n 0, 1) := by decide +kernel
theorem d_jdk_65_method_123_19 : decode jdk_65_method_123_code 19 = .ok (.iconst 0, 1) := by decide +kernel
theorem d_jdk_65_method_123_20 : decode jdk_65_method_123_code 20 = .ok (.aload_n 2, 1) := by decide +kernel
theorem d_jdk_65_method_123_21 : decode jdk_65_method_123_code 21 = .ok (.iconst 0, 1) := by decide +kernel
theorem d_jdk_65_method_123_22 : decode jdk_65_method_123_code 22 = .ok (.aload_n 0, 1) := by decide +kernel
theorem d_jdk_65_method_123_23 : decode jdk_65_method_123_code 23 = .ok (.arraylength, 1) := by decide +kernel
theorem d_jdk_65_method_123_24 : decode jdk_65_method_123_code 24 = .ok (.iload_n 1, 1) := by decide +kernel
theorem d_jdk_65_method_123_25 : decode jdk_65_method_123_code 25 = .ok (.invokestatic 304, 3) := by decide +kernel
theorem pd_0 : parseMethodDescriptor "(II)I" = some ⟨[.int, .int], some .int⟩ := by decide +kernel
theorem d_jdk_65_method_123_28 : decode jdk_65_method_123_code 28 = .ok (.invokestatic 150, 3) := by decide +kernel
theorem d_jdk_65_method_123_31 : decode jdk_65_method_123_code 31 = .ok (.aload_n 2, 1) := by decide +kernel
theorem d_jdk_65_method_123_32 : decode jdk_65_method_123_code 32 = .ok (.areturn, 1) := by decide +kernel
theorem pn_1 : plainName "java/util/Arrays" = true := by first | (simp [plainName, overriddenIn]; done) | decide +kernel
theorem ef_copyof (mt : MethodId) (a : Addr) : entryFrame mt #[(.ref a), (.int (16 : Int32))] 3 = mkF mt 0 #[.val (.ref a), .val (.int (16 : Int32)), .unset] [] := by first | (simp [entryFrame, mkF, argsToLocals, Value.category]; done) | rfl
def Q_copyof (Z : State) (a : Addr) (k : ClassId) (vs : List Value) (h0 : Heap) (n0 : Nat) (v : Option Value) (h : Heap) (L : List Loc) : Prop := ∃ r : Addr, v = some (.ref r) ∧ Fr n0 L ∧ Keep h0 h [] ∧ n0 ≤ r ∧ h0.size ≤ r ∧ ∃ (k' : ClassId) (us : List Value), Arv Z h r k' .int (16 : Int32) us (.int (0 : Int32)) ∧ us.length = 16 ∧ ∀ i, i < 8 → us.getD i (.int (0 : Int32)) = vs.getD i (.int (0 : Int32))
set_option maxRecDepth 65536 in
set_option maxHeartbeats 40000000 in
theorem rm_copyof (l : Launch) (Z : State) (a0 : Array Value) (hw : ∀ d ∈ tables_1, d.before a0 Z = true) (ws : List Jvm.Cond) (a : Addr) (k : ClassId) (vs : List Value) (h0 : Heap) (n0 : Nat) (Z0 : n0 ≤ h0.size) (V : Arv Z h0 a k .int (8 : Int32) vs (.int (0 : Int32))) :
    MetFree l (⟨"java/util/Arrays", "copyOf", "([II)[I"⟩ : MethodName) (head1 (Jvm.Cond.code (⟨"java/util/Arrays", "copyOf", "([II)[I"⟩ : MethodName) jdk_65_method_123_code 3 (some (.array .int)) :: ws) ({ frames := 1, cells := 1, slots := 16, locals := 40 } : Room)) (fun aa UU => aa = #[(.ref a), (.int (16 : Int32))] ∧ Z.Warmed39 UU.vm ∧ UU.heap = h0) (fun _ _ _ _ _ => True) (fun _ UU oo UU' => ∃ vv LL, oo = .returned vv ∧ Q_copyof Z a k vs h0 n0 vv UU'.heap LL ∧ FrameEnd UU oo UU' LL ({ frames := 1, cells := 1, slots := 16, locals := 40 } : Room).cells ({ frames := 1, cells := 1, slots := 16, locals := 40 } : Room).slots) := by
  refine MetFree.of_bodySF (plainFor_of_name pn_1) hisR ?_
  intro p e s mt args below meth cd s₁ Bd hml0 hP hK
  obtain ⟨hA, hZ, hh⟩ := hP
  have hx := Bd.exec
  have hby := Bd.bytes
  have hml : cd.maxLocals = 3 := hml0
  have hown : s.vm.findClass "java/util/Arrays" = some mt.cls := findClass_of_methodNamed Bd.named
  have hnm := (name_of_methodNamed Bd.named Bd.method).1
  have hlk : meth.locks = false := BodyLoose.notSynchronized Bd
  have hrt := Bd.returns
  have X0 : Stand p l e ({ frames := 1, cells := 1, slots := 16, locals := 40 } : Room) s mt args below meth cd s₁ [] 0 0 := Stand.of_body Bd
  have e0 : s₁.heap = h0 := by rw [← hh, Bd.state]; rfl
  have N0 := Fr.nil n0
  show Win p e below (Ends s (Q_copyof Z a k vs h0 n0) ({ frames := 1, cells := 1, slots := 16, locals := 40 } : Room).cells ({ frames := 1, cells := 1, slots := 16, locals := 40 } : Room).slots) s₁ (entryFrame mt args 3)
  rw [hA, ef_copyof]
  refine Win.st ?_ (fun tq kq => XS.iloadN X0.here hx rfl (hb hby d_jdk_65_method_123_0) rfl kq)
  show Win p e below _ s₁ (mkF mt 1 #[.val (.ref a), .val (.int (16 : Int32)), .unset] [(.int (16 : Int32))])
  refine Win.st ?_ (fun tq kq => XS.aloadN X0.here hx rfl (hb hby d_jdk_65_method_123_1) rfl rfl kq)
  show Win p e below _ s₁ (mkF mt 2 #[.val (.ref a), .val (.int (16 : Int32)), .unset] [(.ref a), (.int (16 : Int32))])
  refine Win.st ?_ (own_alen (g := (mkF mt 2 #[.val (.ref a), .val (.int (16 : Int32)), .unset] [(.ref a), (.int (16 : Int32))])) X0 hx hZ e0 V rfl rfl (hb hby d_jdk_65_method_123_2))
  show Win p e below _ s₁ (mkF mt 3 #[.val (.ref a), .val (.int (16 : Int32)), .unset] [(.int (8 : Int32)), (.int (16 : Int32))])
  refine Win.st ?_ (fun tq kq => XS.icmpYes X0.here hx rfl (pc0 := 3) (pc' := 14) rfl (hb hby d_jdk_65_method_123_3) rfl (feq (by decide : ¬ ((16 : Int32) = (8 : Int32)))).2 (by decide) (by decide) kq)
  show Win p e below _ s₁ (mkF mt 14 #[.val (.ref a), .val (.int (16 : Int32)), .unset] [])
  refine Win.st ?_ (fun tq kq => XS.iloadN X0.here hx rfl (hb hby d_jdk_65_method_123_14) rfl kq)
  show Win p e below _ s₁ (mkF mt 15 #[.val (.ref a), .val (.int (16 : Int32)), .unset] [(.int (16 : Int32))])
  obtain ⟨T37, h37, k37, X37, e37, E37, A37, st37⟩ := newP X0 hx hZ (hw _ (List.mem_of_getElem? (i := 10) rfl)) e0 (g := (mkF mt 15 #[.val (.ref a), .val (.int (16 : Int32)), .unset] [(.int (16 : Int32))])) rfl (hb hby d_jdk_65_method_123_15) rfl (by decide) (cap := 16) (by decide) (by decide) (by decide) (by decide)
  obtain ⟨b37, gq37⟩ : ∃ z, z = h0.size := ⟨_, rfl⟩
  rw [← gq37] at A37 st37
  have ne38 : a ≠ b37 := own_new gq37 V.lt
  have g39 : n0 ≤ b37 := own_newle Z0 gq37
  have z40 : h0.size ≤ b37 := own_newle (Keep.refl h0 []).1 gq37
  have ke37 := own_kext E37
  replace X37 : Stand p l e _ s mt args below meth cd T37 _ 1 16 := X37
  have f41_18 := V.keep ke37 nin0
  have Z42 : n0 ≤ h37.size := Nat.le_trans Z0 ke37.1
  have K43 : Keep h0 h37 [] := Keep.trans (Keep.refl h0 []) ke37 all0
  have V37 : Arv Z h37 b37 k37 .int (16 : Int32) (List.replicate 16 (.int (0 : Int32))) (.int (0 : Int32)) := (Arv.new A37 (by decide)).pad (pad_rep [] (.int (0 : Int32)) 16)
  refine Win.st ?_ st37
  show Win p e below _ T37 (mkF mt 17 #[.val (.ref a), .val (.int (16 : Int32)), .unset] [(.ref b37)])
  refine Win.st ?_ (fun tq kq => XS.astoreN X37.here hx rfl (hb hby d_jdk_65_method_123_17) rfl rfl (l' := #[.val (.ref a), .val (.int (16 : Int32)), .val (.ref b37)]) rfl kq)
  show Win p e below _ T37 (mkF mt 18 #[.val (.ref a), .val (.int (16 : Int32)), .val (.ref b37)] [])
  refine Win.st ?_ (fun tq kq => XS.aloadN X37.here hx rfl (hb hby d_jdk_65_method_123_18) rfl rfl kq)
  show Win p e below _ T37 (mkF mt 19 #[.val (.ref a), .val (.int (16 : Int32)), .val (.ref b37)] [(.ref a)])
  refine Win.st ?_ (fun tq kq => XS.iconst X37.here hx rfl (hb hby d_jdk_65_method_123_19) kq)
  show Win p e below _ T37 (mkF mt 20 #[.val (.ref a), .val (.int (16 : Int32)), .val (.ref b37)] [(.int (0 : Int32)), (.ref a)])
  refine Win.st ?_ (fun tq kq => XS.aloadN X37.here hx rfl (hb hby d_jdk_65_method_123_20) rfl rfl kq)
  show Win p e below _ T37 (mkF mt 21 #[.val (.ref a), .val (.int (16 : Int32)), .val (.ref b37)] [(.ref b37), (.int (0 : Int32)), (.ref a)])
  refine Win.st ?_ (fun tq kq => XS.iconst X37.here hx rfl (hb hby d_jdk_65_method_123_21) kq)
  show Win p e below _ T37 (mkF mt 22 #[.val (.ref a), .val (.int (16 : Int32)), .val (.ref b37)] [(.int (0 : Int32)), (.ref b37), (.int (0 : Int32)), (.ref a)])
  refine Win.st ?_ (fun tq kq => XS.aloadN X37.here hx rfl (hb hby d_jdk_65_method_123_22) rfl rfl kq)
  show Win p e below _ T37 (mkF mt 23 #[.val (.ref a), .val (.int (16 : Int32)), .val (.ref b37)] [(.ref a), (.int (0 : Int32)), (.ref b37), (.int (0 : Int32)), (.ref a)])
  refine Win.st ?_ (own_alen (g := (mkF mt 23 #[.val (.ref a), .val (.int (16 : Int32)), .val (.ref b37)] [(.ref a), (.int (0 : Int32)), (.ref b37), (.int (0 : Int32)), (.ref a)])) X37 hx hZ e37 f41_18 rfl rfl (hb hby d_jdk_65_method_123_23))
  show Win p e below _ T37 (mkF mt 24 #[.val (.ref a), .val (.int (16 : Int32)), .val (.ref b37)] [(.int (8 : Int32)), (.int (0 : Int32)), (.ref b37), (.int (0 : Int32)), (.ref a)])
  refine Win.st ?_ (fun tq kq => XS.iloadN X37.here hx rfl (hb hby d_jdk_65_method_123_24) rfl kq)
  show Win p e below _ T37 (mkF mt 25 #[.val (.ref a), .val (.int (16 : Int32)), .val (.ref b37)] [(.int (16 : Int32)), (.int (8 : Int32)), (.int (0 : Int32)), (.ref b37), (.int (0 : Int32)), (.ref a)])
  obtain ⟨v44, _, ⟨T44, L44, k44, n44⟩, -, X44, ⟨Lc44, hQ44, l44, y44, z44⟩, st44⟩ := Jvm.LawKit.callS X37 hx (y := (⟨"java/lang/Math", "min", "(II)I"⟩ : MethodName)) hown (mvT hZ (hw _ (List.mem_of_getElem? (i := 38) rfl))) (mvT hZ (hw _ (List.mem_of_getElem? (i := 39) rfl))) (mvT hZ (hw _ (List.mem_of_getElem? (i := 40) rfl))) (mvT hZ (hw _ (List.mem_of_getElem? (i := 41) rfl))) (by decide) (backOf (W := 4) (rm_min l Z a0 hw [] (8 : Int32) (16 : Int32) h37 n0 Z42 ) hZ (hw _ (List.mem_of_getElem? (i := 41) rfl)) (hw _ (List.mem_of_getElem? (i := 40) rfl)) (by decide) (by decide)) (g := (mkF mt 25 #[.val (.ref a), .val (.int (16 : Int32)), .val (.ref b37)] [(.int (16 : Int32)), (.int (8 : Int32)), (.int (0 : Int32)), (.ref b37), (.int (0 : Int32)), (.ref a)])) rfl (by rw [hml]; rfl) (argsL := [(.int (8 : Int32)), (.int (16 : Int32))]) (rest := [(.int (0 : Int32)), (.ref b37), (.int (0 : Int32)), (.ref a)]) (lenOf pd_0 rfl) rfl (by show 2 * 0 + _ ≤ _; exact Nat.le_of_eq rfl) (hb hby d_jdk_65_method_123_25) (fun _ _ => ⟨rfl, e37, (by decide : 1 + 0 ≤ _), (by decide : 16 + 0 ≤ _)⟩)
  dsimp only [Pt.U, Pt.locs, Pt.cells, Pt.slots] at X44 l44 y44 z44 st44 hQ44
  subst y44 z44
  replace X44 : Stand p l e _ s mt args below meth cd T44 L44 1 16 := X44
  obtain ⟨h44, e44⟩ : ∃ z, T44.heap = z := ⟨_, rfl⟩
  rw [e44] at hQ44
  obtain ⟨rfl, Nq44, eh44⟩ := hQ44
  have N44 : Fr n0 L44 := by rw [l44]; exact Fr.app N0 Nq44
  rw [eh44] at e44
  refine Win.st ?_ st44
  show Win p e below _ T44 (mkF mt 28 #[.val (.ref a), .val (.int (16 : Int32)), .val (.ref b37)] [(.int (own_min (8 : Int32) (16 : Int32))), (.int (0 : Int32)), (.ref b37), (.int (0 : Int32)), (.ref a)])
  rw [show own_min (8 : Int32) (16 : Int32) = (8 : Int32) from by decide]
  show Win p e below _ T44 (mkF mt 28 #[.val (.ref a), .val (.int (16 : Int32)), .val (.ref b37)] [(.int (8 : Int32)), (.int (0 : Int32)), (.ref b37), (.int (0 : Int32)), (.ref a)])
  obtain ⟨T45, h45, L45, X45, e45, N45, kp45, V45, st45⟩ := cpA X44 hx hZ hown (hw _ (List.mem_of_getElem? (i := 42) rfl)) (hw _ (List.mem_of_getElem? (i := 45) rfl)) (hw _ (List.mem_of_getElem? (i := 43) rfl)) (hw _ (List.mem_of_getElem? (i := 44) rfl)) e44 f41_18 V37 (Or.inl ⟨rfl, rfl⟩) (by decide) (by decide) (by decide) (by decide) (by decide) rfl (by decide) N44 g39 (g := (mkF mt 28 #[.val (.ref a), .val (.int (16 : Int32)), .val (.ref b37)] [(.int (8 : Int32)), (.int (0 : Int32)), (.ref b37), (.int (0 : Int32)), (.ref a)])) rfl (by rw [hml]; rfl) rfl (hb hby d_jdk_65_method_123_28) (by decide) (W := 0) (by show 2 * 0 + _ ≤ _; exact Nat.le_of_eq rfl) (by decide)
  have f46_54 := f41_18.keep kp45 (ninS ne38 nin0)
  have Z47 : n0 ≤ h45.size := Nat.le_trans Z42 kp45.1
  have K48 : Keep h0 h45 [] := Keep.trans K43 kp45 (allS (Or.inr z40) all0)
  refine Win.st ?_ st45
  show Win p e below _ T45 (mkF mt 31 #[.val (.ref a), .val (.int (16 : Int32)), .val (.ref b37)] [])
  refine Win.st ?_ (fun tq kq => XS.aloadN X45.here hx rfl (hb hby d_jdk_65_method_123_31) rfl rfl kq)
  show Win p e below _ T45 (mkF mt 32 #[.val (.ref a), .val (.int (16 : Int32)), .val (.ref b37)] [(.ref b37)])
  exact Win.ret X45 hx hlk e45 hrt rfl (Or.inr (Or.inr (Or.inr (Or.inr ⟨rfl, rfl, rfl⟩)))) (hb hby d_jdk_65_method_123_32) (by decide) (by decide) ⟨_, rfl, N45, K48, g39, z40, _, _, V45, (own_copy vs).1, (own_copy vs).2⟩
theorem d_prog_51_method_2_12 : decode prog_51_method_2_code 12 = .ok (.aload_n 0, 1) := by decide +kernel
theorem d_prog_51_method_2_13 : decode prog_51_method_2_code 13 = .ok (.aload_n 0, 1) := by decide +kernel
theorem d_prog_51_method_2_14 : decode prog_51_method_2_code 14 = .ok (.getfield 7, 3) := by decide +kernel
theorem d_prog_51_method_2_17 : decode prog_51_method_2_code 17 = .ok (.iconst 2, 1) := by decide +kernel
theorem d_prog_51_method_2_18 : decode prog_51_method_2_code 18 = .ok (.aload_n 0, 1) := by decide +kernel
theorem d_prog_51_method_2_19 : decode prog_51_method_2_code 19 = .ok (.getfield 13, 3) := by decide +kernel
theorem d_prog_51_method_2_22 : decode prog_51_method_2_code 22 = .ok (.imul, 1) := by decide +kernel
theorem d_prog_51_method_2_23 : decode prog_51_method_2_code 23 = .ok (.invokestatic 17, 3) := by decide +kernel
theorem pd_1 : parseMethodDescriptor "([II)[I" = some ⟨[(.array .int), .int], some (.array .int)⟩ := by decide +kernel
theorem d_prog_51_method_2_26 : decode prog_51_method_2_code 26 = .ok (.putfield 7, 3) := by decide +kernel
theorem ef_iladdg (mt : MethodId) (a : Addr) (x : Int32) : entryFrame mt #[(.ref a), (.int x)] 2 = mkF mt 0 #[.val (.ref a), .val (.int x)] [] := by first | (simp [entryFrame, mkF, argsToLocals, Value.category]; done) | rfl
def Q_iladdg (Z : State) (a : Addr) (x : Int32) (b : Addr) (k : ClassId) (vs : List Value) (h0 : Heap) (n0 : Nat) (v : Option Value) (h : Heap) (L : List Loc) : Prop := v = none ∧ Fr n0 L ∧ n0 ≤ h.size ∧ Exa Z h a "com/example/kwerx/kwerx/index/IntList" ∧ Fld Z h a "com/example/kwerx/kwerx/index/IntList" "size" "I" (.int ((8 : Int32) + (1 : Int32))) ∧ ∃ (r : Addr) (k' : ClassId) (us : List Value), n0 ≤ r ∧ a ≠ r ∧ Fld Z h a "com/example/kwerx/kwerx/index/IntList" "values" "[I" (.ref r) ∧ Arv Z h r k' .int (16 : Int32) (us.set (8 : Int32).toNatClampNeg (.int x)) (.int (0 : Int32)) ∧ us.length = 16 ∧ ∀ i, i < 8 → us.getD i (.int (0 : Int32)) = vs.getD i (.int (0 : Int32))
set_option maxRecDepth 65536 in
set_option maxHeartbeats 40000000 in
theorem rm_iladdg (l : Launch) (Z : State) (a0 : Array Value) (hw : ∀ d ∈ tables_1, d.before a0 Z = true) (ws : List Jvm.Cond) (a : Addr) (x : Int32) (b : Addr) (k : ClassId) (vs : List Value) (h0 : Heap) (n0 : Nat) (Z0 : n0 ≤ h0.size) (E : Exa Z h0 a "com/example/kwerx/kwerx/index/IntList") (F1 : Fld Z h0 a "com/example/kwerx/kwerx/index/IntList" "values" "[I" (.ref b)) (F2 : Fld Z h0 a "com/example/kwerx/kwerx/index/IntList" "size" "I" (.int (8 : Int32))) (V : Arv Z h0 b k .int (8 : Int32) vs (.int (0 : Int32))) (ga : n0 ≤ a) (nab : a ≠ b) :
    MetFree l (⟨"com/example/kwerx/kwerx/index/IntList", "add", "(I)V"⟩ : MethodName) (head1 (Jvm.Cond.code (⟨"com/example/kwerx/kwerx/index/IntList", "add", "(I)V"⟩ : MethodName) prog_51_method_2_code 2 none :: ws) ({ frames := 2, cells := 1, slots := 16, locals := 55 } : Room)) (fun aa UU => aa = #[(.ref a), (.int x)] ∧ Z.Warmed39 UU.vm ∧ UU.heap = h0) (fun _ _ _ _ _ => True) (fun _ UU oo UU' => ∃ vv LL, oo = .returned vv ∧ Q_iladdg Z a x b k vs h0 n0 vv UU'.heap LL ∧ FrameEnd UU oo UU' LL ({ frames := 2, cells := 1, slots := 16, locals := 55 } : Room).cells ({ frames := 2, cells := 1, slots := 16, locals := 55 } : Room).slots) := by
  refine MetFree.of_bodySF (plainFor_of_name pn_0) hisR ?_
  intro p e s mt args below meth cd s₁ Bd hml0 hP hK
  obtain ⟨hA, hZ, hh⟩ := hP
  have hx := Bd.exec
  have hby := Bd.bytes
  have hml : cd.maxLocals = 2 := hml0
  have hown : s.vm.findClass "com/example/kwerx/kwerx/index/IntList" = some mt.cls := findClass_of_methodNamed Bd.named
  have hnm := (name_of_methodNamed Bd.named Bd.method).1
  have hlk : meth.locks = false := BodyLoose.notSynchronized Bd
  have hrt := Bd.returns
  have X0 : Stand p l e ({ frames := 2, cells := 1, slots := 16, locals := 55 } : Room) s mt args below meth cd s₁ [] 0 0 := Stand.of_body Bd
  have e0 : s₁.heap = h0 := by rw [← hh, Bd.state]; rfl
  have N0 := Fr.nil n0
  show Win p e below (Ends s (Q_iladdg Z a x b k vs h0 n0) ({ frames := 2, cells := 1, slots := 16, locals := 55 } : Room).cells ({ frames := 2, cells := 1, slots := 16, locals := 55 } : Room).slots) s₁ (entryFrame mt args 2)
  rw [hA, ef_iladdg]
  refine Win.st ?_ (fun tq kq => XS.aloadN X0.here hx rfl (hb hby d_prog_51_method_2_0) rfl rfl kq)
  show Win p e below _ s₁ (mkF mt 1 #[.val (.ref a), .val (.int x)] [(.ref a)])
  obtain ⟨T49, X49, e49, st49⟩ := getF X0 hx hZ hown (host := "") (Or.inl (hw _ (List.mem_of_getElem? (i := 22) rfl))) Via.refl e0 F2 (g := (mkF mt 1 #[.val (.ref a), .val (.int x)] [(.ref a)])) rfl rfl (hb hby d_prog_51_method_2_1)
  refine Win.st ?_ st49
  show Win p e below _ T49 (mkF mt 4 #[.val (.ref a), .val (.int x)] [(.int (8 : Int32))])
  refine Win.st ?_ (fun tq kq => XS.aloadN X49.here hx rfl (hb hby d_prog_51_method_2_4) rfl rfl kq)
  show Win p e below _ T49 (mkF mt 5 #[.val (.ref a), .val (.int x)] [(.ref a), (.int (8 : Int32))])
  obtain ⟨T50, X50, e50, st50⟩ := getF X49 hx hZ hown (host := "") (Or.inl (hw _ (List.mem_of_getElem? (i := 11) rfl))) Via.refl e49 F1 (g := (mkF mt 5 #[.val (.ref a), .val (.int x)] [(.ref a), (.int (8 : Int32))])) rfl rfl (hb hby d_prog_51_method_2_5)
  refine Win.st ?_ st50
  show Win p e below _ T50 (mkF mt 8 #[.val (.ref a), .val (.int x)] [(.ref b), (.int (8 : Int32))])
  refine Win.st ?_ (own_alen (g := (mkF mt 8 #[.val (.ref a), .val (.int x)] [(.ref b), (.int (8 : Int32))])) X50 hx hZ e50 V rfl rfl (hb hby d_prog_51_method_2_8))
  show Win p e below _ T50 (mkF mt 9 #[.val (.ref a), .val (.int x)] [(.int (8 : Int32)), (.int (8 : Int32))])
  refine Win.st ?_ (fun tq kq => XS.icmpNo X50.here hx rfl (hb hby d_prog_51_method_2_9) rfl (teq (rfl : (8 : Int32) = (8 : Int32))).2 kq)
  show Win p e below _ T50 (mkF mt 12 #[.val (.ref a), .val (.int x)] [])
  refine Win.st ?_ (fun tq kq => XS.aloadN X50.here hx rfl (hb hby d_prog_51_method_2_12) rfl rfl kq)
  show Win p e below _ T50 (mkF mt 13 #[.val (.ref a), .val (.int x)] [(.ref a)])
  refine Win.st ?_ (fun tq kq => XS.aloadN X50.here hx rfl (hb hby d_prog_51_method_2_13) rfl rfl kq)
  show Win p e below _ T50 (mkF mt 14 #[.val (.ref a), .val (.int x)] [(.ref a), (.ref a)])
  obtain ⟨T51, X51, e51, st51⟩ := getF X50 hx hZ hown (host := "") (Or.inl (hw _ (List.mem_of_getElem? (i := 11) rfl))) Via.refl e50 F1 (g := (mkF mt 14 #[.val (.ref a), .val (.int x)] [(.ref a), (.ref a)])) rfl rfl (hb hby d_prog_51_method_2_14)
  refine Win.st ?_ st51
  show Win p e below _ T51 (mkF mt 17 #[.val (.ref a), .val (.int x)] [(.ref b), (.ref a)])
  refine Win.st ?_ (fun tq kq => XS.iconst X51.here hx rfl (hb hby d_prog_51_method_2_17) kq)
  show Win p e below _ T51 (mkF mt 18 #[.val (.ref a), .val (.int x)] [(.int (2 : Int32)), (.ref b), (.ref a)])
  refine Win.st ?_ (fun tq kq => XS.aloadN X51.here hx rfl (hb hby d_prog_51_method_2_18) rfl rfl kq)
  show Win p e below _ T51 (mkF mt 19 #[.val (.ref a), .val (.int x)] [(.ref a), (.int (2 : Int32)), (.ref b), (.ref a)])
  obtain ⟨T52, X52, e52, st52⟩ := getF X51 hx hZ hown (host := "") (Or.inl (hw _ (List.mem_of_getElem? (i := 22) rfl))) Via.refl e51 F2 (g := (mkF mt 19 #[.val (.ref a), .val (.int x)] [(.ref a), (.int (2 : Int32)), (.ref b), (.ref a)])) rfl rfl (hb hby d_prog_51_method_2_19)
  refine Win.st ?_ st52
  show Win p e below _ T52 (mkF mt 22 #[.val (.ref a), .val (.int x)] [(.int (8 : Int32)), (.int (2 : Int32)), (.ref b), (.ref a)])
  refine Win.st ?_ (fun tq kq => XS.imul X52.here hx rfl (hb hby d_prog_51_method_2_22) rfl kq)
  show Win p e below _ T52 (mkF mt 23 #[.val (.ref a), .val (.int x)] [(.int ((2 : Int32) * (8 : Int32))), (.ref b), (.ref a)])
  rw [show (2 : Int32) * (8 : Int32) = (16 : Int32) from by decide]
  show Win p e below _ T52 (mkF mt 23 #[.val (.ref a), .val (.int x)] [(.int (16 : Int32)), (.ref b), (.ref a)])
  obtain ⟨v53, _, ⟨T53, L53, k53, n53⟩, -, X53, ⟨Lc53, hQ53, l53, y53, z53⟩, st53⟩ := Jvm.LawKit.callS X52 hx (y := (⟨"java/util/Arrays", "copyOf", "([II)[I"⟩ : MethodName)) hown (mvT hZ (hw _ (List.mem_of_getElem? (i := 34) rfl))) (mvT hZ (hw _ (List.mem_of_getElem? (i := 35) rfl))) (mvT hZ (hw _ (List.mem_of_getElem? (i := 36) rfl))) (mvT hZ (hw _ (List.mem_of_getElem? (i := 37) rfl))) (by decide) (backOf (W := 1) (rm_copyof l Z a0 hw [] b k vs h0 n0 Z0 V) hZ (hw _ (List.mem_of_getElem? (i := 37) rfl)) (hw _ (List.mem_of_getElem? (i := 36) rfl)) (by decide) (by decide)) (g := (mkF mt 23 #[.val (.ref a), .val (.int x)] [(.int (16 : Int32)), (.ref b), (.ref a)])) rfl (by rw [hml]; rfl) (argsL := [(.ref b), (.int (16 : Int32))]) (rest := [(.ref a)]) (lenOf pd_1 rfl) rfl (by show 2 * 0 + _ ≤ _; exact Nat.le_of_eq rfl) (hb hby d_prog_51_method_2_23) (fun _ _ => ⟨rfl, e52, (by decide : 0 + 1 ≤ _), (by decide : 0 + 16 ≤ _)⟩)
  dsimp only [Pt.U, Pt.locs, Pt.cells, Pt.slots] at X53 l53 y53 z53 st53 hQ53
  subst y53 z53
  replace X53 : Stand p l e _ s mt args below meth cd T53 L53 1 16 := X53
  obtain ⟨h53, e53⟩ : ∃ z, T53.heap = z := ⟨_, rfl⟩
  rw [e53] at hQ53
  obtain ⟨rr, rfl, Nq53, K53, gr53, sr53, kr, us, V53, hus, hui⟩ := hQ53
  have N53 : Fr n0 L53 := by rw [l53]; exact Fr.app N0 Nq53
  have f54_40 := E.keep K53
  have f54_41 := F1.keep K53 nin0
  have f54_42 := F2.keep K53 nin0
  have f54_43 := V.keep K53 nin0
  have Z55 : n0 ≤ h53.size := Nat.le_trans Z0 K53.1
  have nr : a ≠ rr := Nat.ne_of_lt (Nat.lt_of_lt_of_le E.lt sr53)
  refine Win.st ?_ st53
  show Win p e below _ T53 (mkF mt 26 #[.val (.ref a), .val (.int x)] [(.ref rr), (.ref a)])
  obtain ⟨T56, h56, X56, e56, W56, st56⟩ := putF X53 hx hZ hown (host := "") (Or.inl (hw _ (List.mem_of_getElem? (i := 11) rfl))) Via.refl e53 f54_41 f54_40 (Or.inl (hw _ (List.mem_of_getElem? (i := 12) rfl))) (hw _ (List.mem_of_getElem? (i := 2) rfl)) (ty := (.array .int)) (by decide) rfl rfl (g := (mkF mt 26 #[.val (.ref a), .val (.int x)] [(.ref rr), (.ref a)])) rfl rfl (hb hby d_prog_51_method_2_26)
  obtain ⟨L56, X56, N56⟩ := own_hide X56 N53 ga
  have kp56 := Keep.of_wr W56
  have fw56 := f54_41.same W56
  have f56_52 := f54_42.other W56 (Or.inr (slot_ne (Or.inl (hw _ (List.mem_of_getElem? (i := 23) rfl))) (Or.inl (hw _ (List.mem_of_getElem? (i := 12) rfl))) (by decide) (t := .int) (t' := (.array .int)) (by decide) (by decide)))
  have f57_53 := f54_40.keep kp56
  have f57_54 := V53.keep kp56 (ninS (Ne.symm nr) nin0)
  have Z58 : n0 ≤ h56.size := Nat.le_trans Z55 kp56.1
  refine Win.st ?_ st56
  show Win p e below _ T56 (mkF mt 29 #[.val (.ref a), .val (.int x)] [])
  refine Win.st ?_ (fun tq kq => XS.aloadN X56.here hx rfl (hb hby d_prog_51_method_2_29) rfl rfl kq)
  show Win p e below _ T56 (mkF mt 30 #[.val (.ref a), .val (.int x)] [(.ref a)])
  obtain ⟨T59, X59, e59, st59⟩ := getF X56 hx hZ hown (host := "") (Or.inl (hw _ (List.mem_of_getElem? (i := 11) rfl))) Via.refl e56 fw56 (g := (mkF mt 30 #[.val (.ref a), .val (.int x)] [(.ref a)])) rfl rfl (hb hby d_prog_51_method_2_30)
  refine Win.st ?_ st59
  show Win p e below _ T59 (mkF mt 33 #[.val (.ref a), .val (.int x)] [(.ref rr)])
  refine Win.st ?_ (fun tq kq => XS.aloadN X59.here hx rfl (hb hby d_prog_51_method_2_33) rfl rfl kq)
  show Win p e below _ T59 (mkF mt 34 #[.val (.ref a), .val (.int x)] [(.ref a), (.ref rr)])
  refine Win.st ?_ (fun tq kq => XS.dup X59.here hx rfl (hb hby d_prog_51_method_2_34) rfl rfl kq)
  show Win p e below _ T59 (mkF mt 35 #[.val (.ref a), .val (.int x)] [(.ref a), (.ref a), (.ref rr)])
  obtain ⟨T60, X60, e60, st60⟩ := getF X59 hx hZ hown (host := "") (Or.inl (hw _ (List.mem_of_getElem? (i := 22) rfl))) Via.refl e59 f56_52 (g := (mkF mt 35 #[.val (.ref a), .val (.int x)] [(.ref a), (.ref a), (.ref rr)])) rfl rfl (hb hby d_prog_51_method_2_35)
  refine Win.st ?_ st60
  show Win p e below _ T60 (mkF mt 38 #[.val (.ref a), .val (.int x)] [(.int (8 : Int32)), (.ref a), (.ref rr)])
  refine Win.st ?_ (fun tq kq => XS.dupX1 X60.here hx rfl (hb hby d_prog_51_method_2_38) rfl rfl rfl kq)
  show Win p e below _ T60 (mkF mt 39 #[.val (.ref a), .val (.int x)] [(.int (8 : Int32)), (.ref a), (.int (8 : Int32)), (.ref rr)])
  refine Win.st ?_ (fun tq kq => XS.iconst X60.here hx rfl (hb hby d_prog_51_method_2_39) kq)
  show Win p e below _ T60 (mkF mt 40 #[.val (.ref a), .val (.int x)] [(.int (1 : Int32)), (.int (8 : Int32)), (.ref a), (.int (8 : Int32)), (.ref rr)])
  refine Win.st ?_ (fun tq kq => XS.iadd X60.here hx rfl (hb hby d_prog_51_method_2_40) rfl kq)
  show Win p e below _ T60 (mkF mt 41 #[.val (.ref a), .val (.int x)] [(.int ((8 : Int32) + (1 : Int32))), (.ref a), (.int (8 : Int32)), (.ref rr)])
  obtain ⟨T61, h61, X61, e61, W61, st61⟩ := putF X60 hx hZ hown (host := "") (Or.inl (hw _ (List.mem_of_getElem? (i := 22) rfl))) Via.refl e60 f56_52 f57_53 (Or.inl (hw _ (List.mem_of_getElem? (i := 23) rfl))) (hw _ (List.mem_of_getElem? (i := 2) rfl)) (ty := .int) (by decide) rfl rfl (g := (mkF mt 41 #[.val (.ref a), .val (.int x)] [(.int ((8 : Int32) + (1 : Int32))), (.ref a), (.int (8 : Int32)), (.ref rr)])) rfl rfl (hb hby d_prog_51_method_2_41)
  obtain ⟨L61, X61, N61⟩ := own_hide X61 N56 ga
  have kp61 := Keep.of_wr W61
  have f61_79 := fw56.other W61 (Or.inr (slot_ne (Or.inl (hw _ (List.mem_of_getElem? (i := 12) rfl))) (Or.inl (hw _ (List.mem_of_getElem? (i := 23) rfl))) (by decide) (t := (.array .int)) (t' := .int) (by decide) (by decide)))
  have fw61 := f56_52.same W61
  have f62_81 := f57_53.keep kp61
  have f62_82 := f57_54.keep kp61 (ninS (Ne.symm nr) nin0)
  have Z63 : n0 ≤ h61.size := Nat.le_trans Z58 kp61.1
  refine Win.st ?_ st61
  show Win p e below _ T61 (mkF mt 44 #[.val (.ref a), .val (.int x)] [(.int (8 : Int32)), (.ref rr)])
  refine Win.st ?_ (fun tq kq => XS.iloadN X61.here hx rfl (hb hby d_prog_51_method_2_44) rfl kq)
  show Win p e below _ T61 (mkF mt 45 #[.val (.ref a), .val (.int x)] [(.int x), (.int (8 : Int32)), (.ref rr)])
  obtain ⟨T64, h64, L64, X64, N64, e64, kp64, V64, st64⟩ := own_iast (g := (mkF mt 45 #[.val (.ref a), .val (.int x)] [(.int x), (.int (8 : Int32)), (.ref rr)])) X61 hx hZ e61 N61 gr53 f62_82 (j := (8 : Int32)) (by decide) (by decide) (i := (8 : Int32).toNatClampNeg) rfl (by rw [hus]; decide) rfl rfl (hb hby d_prog_51_method_2_45)
  have f65_89 := f62_81.keep kp64
  have f65_90 := f61_79.keep kp64 (ninS nr nin0)
  have f65_91 := fw61.keep kp64 (ninS nr nin0)
  have Z66 : n0 ≤ h64.size := Nat.le_trans Z63 kp64.1
  refine Win.st ?_ st64
  show Win p e below _ T64 (mkF mt 46 #[.val (.ref a), .val (.int x)] [])
  exact Win.retV X64 hx hlk e64 hrt (hb hby d_prog_51_method_2_46) (by decide) (by decide) ⟨rfl, N64, Z66, f65_89, f65_91, rr, kr, us, gr53, nr, f65_90, V64, hus, hui⟩
theorem d_method_2_0 : decode method_2_code 0 = .ok (.iload_n 1, 1) := by decide +kernel
theorem d_method_2_1 : decode method_2_code 1 = .ok (.iload_n 2, 1) := by decide +kernel
theorem d_method_2_2 : decode method_2_code 2 = .ok (.if_icmp .le 13, 3) := by decide +kernel
theorem d_method_2_5 : decode method_2_code 5 = .ok (.aload_n 0, 1) := by decide +kernel
theorem d_method_2_6 : decode method_2_code 6 = .ok (.iload_n 3, 1) := by decide +kernel
theorem d_method_2_7 : decode method_2_code 7 = .ok (.iload_n 2, 1) := by decide +kernel
theorem d_method_2_8 : decode method_2_code 8 = .ok (.iload 4, 2) := by decide +kernel
theorem d_method_2_10 : decode method_2_code 10 = .ok (.imul, 1) := by decide +kernel
theorem d_method_2_11 : decode method_2_code 11 = .ok (.iadd, 1) := by decide +kernel
theorem d_method_2_12 : decode method_2_code 12 = .ok (.invokevirtual 7, 3) := by decide +kernel
theorem pd_2 : parseMethodDescriptor "(I)V" = some ⟨[.int], none⟩ := by decide +kernel
theorem d_method_2_15 : decode method_2_code 15 = .ok (.return_, 1) := by decide +kernel
theorem pn_2 : plainName "com/example/kwerx/kwerx/index/IntListAddPinLaw" = true := by first | (simp [plainName, overriddenIn]; done) | decide +kernel
theorem ef_step (mt : MethodId) (a : Addr) (v_ : Int32) (w_ : Int32) (nn : Nat) (kk : Nat) : entryFrame mt #[(.ref a), (.int (Int32.ofNat nn)), (.int (Int32.ofNat kk)), (.int v_), (.int w_)] 5 = mkF mt 0 #[.val (.ref a), .val (.int (Int32.ofNat nn)), .val (.int (Int32.ofNat kk)), .val (.int v_), .val (.int w_)] [] := by first | (simp [entryFrame, mkF, argsToLocals, Value.category]; done) | rfl
def Q_step (Z : State) (a : Addr) (v_ : Int32) (w_ : Int32) (nn : Nat) (kk : Nat) (h0 : Heap) (n0 : Nat) (v : Option Value) (h : Heap) (L : List Loc) : Prop := v = none ∧ Fr n0 L ∧ n0 ≤ h.size ∧ ILm Z h n0 a v_ w_ (min nn (kk + 1)) 8
set_option maxRecDepth 65536 in
set_option maxHeartbeats 40000000 in
theorem rm_step (l : Launch) (Z : State) (a0 : Array Value) (hw : ∀ d ∈ tables_1, d.before a0 Z = true) (ws : List Jvm.Cond) (a : Addr) (v_ : Int32) (w_ : Int32) (nn : Nat) (kk : Nat) (h0 : Heap) (n0 : Nat) (Z0 : n0 ≤ h0.size) (hn : nn ≤ 9) (hk : kk ≤ 7) (ga : n0 ≤ a) (I : ILm Z h0 n0 a v_ w_ (min nn kk) 8) :
    MetFree l (⟨"com/example/kwerx/kwerx/index/IntListAddPinLaw", "step", "(Lcom/example/kwerx/kwerx/index/IntList;IIII)V"⟩ : MethodName) (head1 (Jvm.Cond.code (⟨"com/example/kwerx/kwerx/index/IntListAddPinLaw", "step", "(Lcom/example/kwerx/kwerx/index/IntList;IIII)V"⟩ : MethodName) method_2_code 5 none :: ws) ({ frames := 1, cells := 0, slots := 0, locals := 13 } : Room)) (fun aa UU => aa = #[(.ref a), (.int (Int32.ofNat nn)), (.int (Int32.ofNat kk)), (.int v_), (.int w_)] ∧ Z.Warmed39 UU.vm ∧ UU.heap = h0) (fun _ _ _ _ _ => True) (fun _ UU oo UU' => ∃ vv LL, oo = .returned vv ∧ Q_step Z a v_ w_ nn kk h0 n0 vv UU'.heap LL ∧ FrameEnd UU oo UU' LL ({ frames := 1, cells := 0, slots := 0, locals := 13 } : Room).cells ({ frames := 1, cells := 0, slots := 0, locals := 13 } : Room).slots) := by
  refine MetFree.of_bodySF (plainFor_of_name pn_2) hisR ?_
  intro p e s mt args below meth cd s₁ Bd hml0 hP hK
  obtain ⟨hA, hZ, hh⟩ := hP
  have hx := Bd.exec
  have hby := Bd.bytes
  have hml : cd.maxLocals = 5 := hml0
  have hown : s.vm.findClass "com/example/kwerx/kwerx/index/IntListAddPinLaw" = some mt.cls := findClass_of_methodNamed Bd.named
  have hnm := (name_of_methodNamed Bd.named Bd.method).1
  have hlk : meth.locks = false := BodyLoose.notSynchronized Bd
  have hrt := Bd.returns
  have X0 : Stand p l e ({ frames := 1, cells := 0, slots := 0, locals := 13 } : Room) s mt args below meth cd s₁ [] 0 0 := Stand.of_body Bd
  have e0 : s₁.heap = h0 := by rw [← hh, Bd.state]; rfl
  have N0 := Fr.nil n0
  show Win p e below (Ends s (Q_step Z a v_ w_ nn kk h0 n0) ({ frames := 1, cells := 0, slots := 0, locals := 13 } : Room).cells ({ frames := 1, cells := 0, slots := 0, locals := 13 } : Room).slots) s₁ (entryFrame mt args 5)
  rw [hA, ef_step]
  obtain ⟨b, k, vs, gb, nab, E, F1, F2, V, hvl, hI⟩ := I
  rw [own_i8] at hvl
  refine Win.st ?_ (fun tq kq => XS.iloadN X0.here hx rfl (hb hby d_method_2_0) rfl kq)
  show Win p e below _ s₁ (mkF mt 1 #[.val (.ref a), .val (.int (Int32.ofNat nn)), .val (.int (Int32.ofNat kk)), .val (.int v_), .val (.int w_)] [(.int (Int32.ofNat nn))])
  refine Win.st ?_ (fun tq kq => XS.iloadN X0.here hx rfl (hb hby d_method_2_1) rfl kq)
  show Win p e below _ s₁ (mkF mt 2 #[.val (.ref a), .val (.int (Int32.ofNat nn)), .val (.int (Int32.ofNat kk)), .val (.int v_), .val (.int w_)] [(.int (Int32.ofNat kk)), (.int (Int32.ofNat nn))])
  by_cases hc2 : (Int32.ofNat kk) < (Int32.ofNat nn)
  · refine Win.st ?_ (fun tq kq => XS.icmpNo X0.here hx rfl (hb hby d_method_2_2) rfl (tlt hc2).2.2.2 kq)
    show Win p e below _ s₁ (mkF mt 5 #[.val (.ref a), .val (.int (Int32.ofNat nn)), .val (.int (Int32.ofNat kk)), .val (.int v_), .val (.int w_)] [])
    refine Win.st ?_ (fun tq kq => XS.aloadN X0.here hx rfl (hb hby d_method_2_5) rfl rfl kq)
    show Win p e below _ s₁ (mkF mt 6 #[.val (.ref a), .val (.int (Int32.ofNat nn)), .val (.int (Int32.ofNat kk)), .val (.int v_), .val (.int w_)] [(.ref a)])
    refine Win.st ?_ (fun tq kq => XS.iloadN X0.here hx rfl (hb hby d_method_2_6) rfl kq)
    show Win p e below _ s₁ (mkF mt 7 #[.val (.ref a), .val (.int (Int32.ofNat nn)), .val (.int (Int32.ofNat kk)), .val (.int v_), .val (.int w_)] [(.int v_), (.ref a)])
    refine Win.st ?_ (fun tq kq => XS.iloadN X0.here hx rfl (hb hby d_method_2_7) rfl kq)
    show Win p e below _ s₁ (mkF mt 8 #[.val (.ref a), .val (.int (Int32.ofNat nn)), .val (.int (Int32.ofNat kk)), .val (.int v_), .val (.int w_)] [(.int (Int32.ofNat kk)), (.int v_), (.ref a)])
    refine Win.st ?_ (fun tq kq => XS.iload X0.here hx rfl (hb hby d_method_2_8) rfl kq)
    show Win p e below _ s₁ (mkF mt 10 #[.val (.ref a), .val (.int (Int32.ofNat nn)), .val (.int (Int32.ofNat kk)), .val (.int v_), .val (.int w_)] [(.int w_), (.int (Int32.ofNat kk)), (.int v_), (.ref a)])
    refine Win.st ?_ (fun tq kq => XS.imul X0.here hx rfl (hb hby d_method_2_10) rfl kq)
    show Win p e below _ s₁ (mkF mt 11 #[.val (.ref a), .val (.int (Int32.ofNat nn)), .val (.int (Int32.ofNat kk)), .val (.int v_), .val (.int w_)] [(.int ((Int32.ofNat kk) * w_)), (.int v_), (.ref a)])
    refine Win.st ?_ (fun tq kq => XS.iadd X0.here hx rfl (hb hby d_method_2_11) rfl kq)
    show Win p e below _ s₁ (mkF mt 12 #[.val (.ref a), .val (.int (Int32.ofNat nn)), .val (.int (Int32.ofNat kk)), .val (.int v_), .val (.int w_)] [(.int (v_ + ((Int32.ofNat kk) * w_))), (.ref a)])
    have hlt : kk < nn := (own_ofnat_lt (by omega) (by omega)).mp hc2
    have hm : min nn kk = kk := by omega
    rw [hm] at F2 hI
    obtain ⟨cq67, kq67, q67a, q67b, q67c⟩ := isOf hZ e0 E
    obtain ⟨v67, _, ⟨T67, L67, k67, n67⟩, -, X67, ⟨Lc67, hQ67, l67, y67, z67⟩, st67⟩ := X0.virtualBack hx (y := (⟨"com/example/kwerx/kwerx/index/IntList", "add", "(I)V"⟩ : MethodName)) (z := (⟨"com/example/kwerx/kwerx/index/IntList", "add", "(I)V"⟩ : MethodName)) hown (mvT hZ (hw _ (List.mem_of_getElem? (i := 24) rfl))) (mvT hZ (hw _ (List.mem_of_getElem? (i := 25) rfl))) (notFace_of_selects (args := #[]) (mvT hZ (hw _ (List.mem_of_getElem? (i := 27) rfl)))) (mvT hZ (hw _ (List.mem_of_getElem? (i := 27) rfl))) (mvT hZ (hw _ (List.mem_of_getElem? (i := 26) rfl))) (by decide) (backOf (W := 0) (rm_iladd l Z a0 hw [] a (v_ + ((Int32.ofNat kk) * w_)) b k (8 : Int32) (Int32.ofNat kk) vs h0 n0 Z0 E F1 F2 V (own_nlt (by rw [own_nat (by omega), own_i0]; omega)) (own_lt (by rw [own_nat (by omega), own_i8]; omega)) (by rw [own_natc (by omega)]; omega) ga gb nab) hZ (hw _ (List.mem_of_getElem? (i := 28) rfl)) (hw _ (List.mem_of_getElem? (i := 3) rfl)) (by decide) (by decide)) q67a q67c (g := (mkF mt 12 #[.val (.ref a), .val (.int (Int32.ofNat nn)), .val (.int (Int32.ofNat kk)), .val (.int v_), .val (.int w_)] [(.int (v_ + ((Int32.ofNat kk) * w_))), (.ref a)])) rfl (by rw [hml]; rfl) (Steps.refl _) (argsL := [(.int (v_ + ((Int32.ofNat kk) * w_)))]) (rest := []) (lenOf pd_2 rfl) rfl (by show 2 * 0 + _ ≤ _; exact Nat.le_of_eq rfl) (hb hby d_method_2_12) (fun _ _ => ⟨rfl, e0, (by decide : 0 + 0 ≤ _), (by decide : 0 + 0 ≤ _)⟩)
    dsimp only [Pt.U, Pt.locs, Pt.cells, Pt.slots] at X67 l67 y67 z67 st67 hQ67
    subst y67 z67
    replace X67 : Stand p l e _ s mt args below meth cd T67 L67 0 0 := X67
    obtain ⟨h67, e67⟩ : ∃ z, T67.heap = z := ⟨_, rfl⟩
    rw [e67] at hQ67
    obtain ⟨rfl, Nq67, K67, fv67, fs67, V67⟩ := hQ67
    have N67 : Fr n0 L67 := by rw [l67]; exact Fr.app N0 Nq67
    have f68_33 := E.keep K67
    have Z69 : n0 ≤ h67.size := Nat.le_trans Z0 K67.1
    refine Win.tr ?_ st67
    show Win p e below _ T67 (mkF mt 15 #[.val (.ref a), .val (.int (Int32.ofNat nn)), .val (.int (Int32.ofNat kk)), .val (.int v_), .val (.int w_)] [])
    exact Win.retV X67 hx hlk e67 hrt (hb hby d_method_2_15) (by decide) (by decide) ⟨rfl, N67, Z69, b, k, _, gb, nab, f68_33, fv67, by rw [show min nn (kk + 1) = kk + 1 by omega, ← own_succ (by omega)]; exact fs67, V67, by rw [List.length_set, own_i8]; exact hvl, by rw [show min nn (kk + 1) = kk + 1 by omega, own_natc (by omega)]; exact own_vals (by omega) hI⟩
  · refine Win.st ?_ (fun tq kq => XS.icmpYes X0.here hx rfl (pc0 := 2) (pc' := 15) rfl (hb hby d_method_2_2) rfl (flt hc2).2.2.2 (by decide) (by decide) kq)
    show Win p e below _ s₁ (mkF mt 15 #[.val (.ref a), .val (.int (Int32.ofNat nn)), .val (.int (Int32.ofNat kk)), .val (.int v_), .val (.int w_)] [])
    exact Win.retV X0 hx hlk e0 hrt (hb hby d_method_2_15) (by decide) (by decide) ⟨rfl, N0, Z0, b, k, vs, gb, nab, E, F1, by have q := hc2; rw [own_ofnat_lt (by omega) (by omega)] at q; rw [show min nn (kk + 1) = min nn kk by omega]; exact F2, V, by rw [own_i8]; exact hvl, by have q := hc2; rw [own_ofnat_lt (by omega) (by omega)] at q; rw [show min nn (kk + 1) = min nn kk by omega]; exact hI⟩
theorem ef_step8 (mt : MethodId) (a : Addr) (v_ : Int32) (w_ : Int32) (nn : Nat) : entryFrame mt #[(.ref a), (.int (Int32.ofNat nn)), (.int (8 : Int32)), (.int v_), (.int w_)] 5 = mkF mt 0 #[.val (.ref a), .val (.int (Int32.ofNat nn)), .val (.int (8 : Int32)), .val (.int v_), .val (.int w_)] [] := by first | (simp [entryFrame, mkF, argsToLocals, Value.category]; done) | rfl
def Q_step8 (Z : State) (a : Addr) (v_ : Int32) (w_ : Int32) (nn : Nat) (h0 : Heap) (n0 : Nat) (v : Option Value) (h : Heap) (L : List Loc) : Prop := v = none ∧ Fr n0 L ∧ n0 ≤ h.size ∧ ∃ z : Int32, ((min nn 9 : Nat) : Int) ≤ z.toInt ∧ ILm Z h n0 a v_ w_ (min nn 9) z
set_option maxRecDepth 65536 in
set_option maxHeartbeats 40000000 in
theorem rm_step8 (l : Launch) (Z : State) (a0 : Array Value) (hw : ∀ d ∈ tables_1, d.before a0 Z = true) (ws : List Jvm.Cond) (a : Addr) (v_ : Int32) (w_ : Int32) (nn : Nat) (h0 : Heap) (n0 : Nat) (Z0 : n0 ≤ h0.size) (hn : nn ≤ 9) (ga : n0 ≤ a) (I : ILm Z h0 n0 a v_ w_ (min nn 8) 8) :
    MetFree l (⟨"com/example/kwerx/kwerx/index/IntListAddPinLaw", "step", "(Lcom/example/kwerx/kwerx/index/IntList;IIII)V"⟩ : MethodName) (head1 (Jvm.Cond.code (⟨"com/example/kwerx/kwerx/index/IntListAddPinLaw", "step", "(Lcom/example/kwerx/kwerx/index/IntList;IIII)V"⟩ : MethodName) method_2_code 5 none :: ws) ({ frames := 3, cells := 1, slots := 16, locals := 68 } : Room)) (fun aa UU => aa = #[(.ref a), (.int (Int32.ofNat nn)), (.int (8 : Int32)), (.int v_), (.int w_)] ∧ Z.Warmed39 UU.vm ∧ UU.heap = h0) (fun _ _ _ _ _ => True) (fun _ UU oo UU' => ∃ vv LL, oo = .returned vv ∧ Q_step8 Z a v_ w_ nn h0 n0 vv UU'.heap LL ∧ FrameEnd UU oo UU' LL ({ frames := 3, cells := 1, slots := 16, locals := 68 } : Room).cells ({ frames := 3, cells := 1, slots := 16, locals := 68 } : Room).slots) := by
  refine MetFree.of_bodySF (plainFor_of_name pn_2) hisR ?_
  intro p e s mt args below meth cd s₁ Bd hml0 hP hK
  obtain ⟨hA, hZ, hh⟩ := hP
  have hx := Bd.exec
  have hby := Bd.bytes
  have hml : cd.maxLocals = 5 := hml0
  have hown : s.vm.findClass "com/example/kwerx/kwerx/index/IntListAddPinLaw" = some mt.cls := findClass_of_methodNamed Bd.named
  have hnm := (name_of_methodNamed Bd.named Bd.method).1
  have hlk : meth.locks = false := BodyLoose.notSynchronized Bd
  have hrt := Bd.returns
  have X0 : Stand p l e ({ frames := 3, cells := 1, slots := 16, locals := 68 } : Room) s mt args below meth cd s₁ [] 0 0 := Stand.of_body Bd
  have e0 : s₁.heap = h0 := by rw [← hh, Bd.state]; rfl
  have N0 := Fr.nil n0
  show Win p e below (Ends s (Q_step8 Z a v_ w_ nn h0 n0) ({ frames := 3, cells := 1, slots := 16, locals := 68 } : Room).cells ({ frames := 3, cells := 1, slots := 16, locals := 68 } : Room).slots) s₁ (entryFrame mt args 5)
  rw [hA, ef_step8]
  obtain ⟨b, k, vs, gb, nab, E, F1, F2, V, hvl, hI⟩ := I
  rw [own_i8] at hvl
  refine Win.st ?_ (fun tq kq => XS.iloadN X0.here hx rfl (hb hby d_method_2_0) rfl kq)
  show Win p e below _ s₁ (mkF mt 1 #[.val (.ref a), .val (.int (Int32.ofNat nn)), .val (.int (8 : Int32)), .val (.int v_), .val (.int w_)] [(.int (Int32.ofNat nn))])
  refine Win.st ?_ (fun tq kq => XS.iloadN X0.here hx rfl (hb hby d_method_2_1) rfl kq)
  show Win p e below _ s₁ (mkF mt 2 #[.val (.ref a), .val (.int (Int32.ofNat nn)), .val (.int (8 : Int32)), .val (.int v_), .val (.int w_)] [(.int (8 : Int32)), (.int (Int32.ofNat nn))])
  by_cases hc2 : (8 : Int32) < (Int32.ofNat nn)
  · refine Win.st ?_ (fun tq kq => XS.icmpNo X0.here hx rfl (hb hby d_method_2_2) rfl (tlt hc2).2.2.2 kq)
    show Win p e below _ s₁ (mkF mt 5 #[.val (.ref a), .val (.int (Int32.ofNat nn)), .val (.int (8 : Int32)), .val (.int v_), .val (.int w_)] [])
    refine Win.st ?_ (fun tq kq => XS.aloadN X0.here hx rfl (hb hby d_method_2_5) rfl rfl kq)
    show Win p e below _ s₁ (mkF mt 6 #[.val (.ref a), .val (.int (Int32.ofNat nn)), .val (.int (8 : Int32)), .val (.int v_), .val (.int w_)] [(.ref a)])
    refine Win.st ?_ (fun tq kq => XS.iloadN X0.here hx rfl (hb hby d_method_2_6) rfl kq)
    show Win p e below _ s₁ (mkF mt 7 #[.val (.ref a), .val (.int (Int32.ofNat nn)), .val (.int (8 : Int32)), .val (.int v_), .val (.int w_)] [(.int v_), (.ref a)])
    refine Win.st ?_ (fun tq kq => XS.iloadN X0.here hx rfl (hb hby d_method_2_7) rfl kq)
    show Win p e below _ s₁ (mkF mt 8 #[.val (.ref a), .val (.int (Int32.ofNat nn)), .val (.int (8 : Int32)), .val (.int v_), .val (.int w_)] [(.int (8 : Int32)), (.int v_), (.ref a)])
    refine Win.st ?_ (fun tq kq => XS.iload X0.here hx rfl (hb hby d_method_2_8) rfl kq)
    show Win p e below _ s₁ (mkF mt 10 #[.val (.ref a), .val (.int (Int32.ofNat nn)), .val (.int (8 : Int32)), .val (.int v_), .val (.int w_)] [(.int w_), (.int (8 : Int32)), (.int v_), (.ref a)])
    refine Win.st ?_ (fun tq kq => XS.imul X0.here hx rfl (hb hby d_method_2_10) rfl kq)
    show Win p e below _ s₁ (mkF mt 11 #[.val (.ref a), .val (.int (Int32.ofNat nn)), .val (.int (8 : Int32)), .val (.int v_), .val (.int w_)] [(.int ((8 : Int32) * w_)), (.int v_), (.ref a)])
    refine Win.st ?_ (fun tq kq => XS.iadd X0.here hx rfl (hb hby d_method_2_11) rfl kq)
    show Win p e below _ s₁ (mkF mt 12 #[.val (.ref a), .val (.int (Int32.ofNat nn)), .val (.int (8 : Int32)), .val (.int v_), .val (.int w_)] [(.int (v_ + ((8 : Int32) * w_))), (.ref a)])
    have hlt : 8 < nn := by have q := hc2; rw [show (8 : Int32) = Int32.ofNat 8 from rfl] at q; exact (own_ofnat_lt (by omega) (by omega)).mp q
    have hm : min nn 8 = 8 := by omega
    rw [hm] at F2 hI
    obtain ⟨cq70, kq70, q70a, q70b, q70c⟩ := isOf hZ e0 E
    obtain ⟨v70, _, ⟨T70, L70, k70, n70⟩, -, X70, ⟨Lc70, hQ70, l70, y70, z70⟩, st70⟩ := X0.virtualBack hx (y := (⟨"com/example/kwerx/kwerx/index/IntList", "add", "(I)V"⟩ : MethodName)) (z := (⟨"com/example/kwerx/kwerx/index/IntList", "add", "(I)V"⟩ : MethodName)) hown (mvT hZ (hw _ (List.mem_of_getElem? (i := 24) rfl))) (mvT hZ (hw _ (List.mem_of_getElem? (i := 25) rfl))) (notFace_of_selects (args := #[]) (mvT hZ (hw _ (List.mem_of_getElem? (i := 27) rfl)))) (mvT hZ (hw _ (List.mem_of_getElem? (i := 27) rfl))) (mvT hZ (hw _ (List.mem_of_getElem? (i := 26) rfl))) (by decide) (backOf (W := 0) (rm_iladdg l Z a0 hw [] a (v_ + ((8 : Int32) * w_)) b k vs h0 n0 Z0 E F1 F2 V ga nab) hZ (hw _ (List.mem_of_getElem? (i := 28) rfl)) (hw _ (List.mem_of_getElem? (i := 3) rfl)) (by decide) (by decide)) q70a q70c (g := (mkF mt 12 #[.val (.ref a), .val (.int (Int32.ofNat nn)), .val (.int (8 : Int32)), .val (.int v_), .val (.int w_)] [(.int (v_ + ((8 : Int32) * w_))), (.ref a)])) rfl (by rw [hml]; rfl) (Steps.refl _) (argsL := [(.int (v_ + ((8 : Int32) * w_)))]) (rest := []) (lenOf pd_2 rfl) rfl (by show 2 * 0 + _ ≤ _; exact Nat.le_of_eq rfl) (hb hby d_method_2_12) (fun _ _ => ⟨rfl, e0, (by decide : 0 + 1 ≤ _), (by decide : 0 + 16 ≤ _)⟩)
    dsimp only [Pt.U, Pt.locs, Pt.cells, Pt.slots] at X70 l70 y70 z70 st70 hQ70
    subst y70 z70
    replace X70 : Stand p l e _ s mt args below meth cd T70 L70 1 16 := X70
    obtain ⟨h70, e70⟩ : ∃ z, T70.heap = z := ⟨_, rfl⟩
    rw [e70] at hQ70
    obtain ⟨rfl, Nq70, z70, E70, fs70, rr, kr, us, gr, nr, fv70, V70, hus, hui⟩ := hQ70
    have N70 : Fr n0 L70 := by rw [l70]; exact Fr.app N0 Nq70
    refine Win.tr ?_ st70
    show Win p e below _ T70 (mkF mt 15 #[.val (.ref a), .val (.int (Int32.ofNat nn)), .val (.int (8 : Int32)), .val (.int v_), .val (.int w_)] [])
    exact Win.retV X70 hx hlk e70 hrt (hb hby d_method_2_15) (by decide) (by decide) ⟨rfl, N70, z70, 16, by rw [show (16 : Int32).toInt = 16 from by decide]; omega, rr, kr, _, gr, nr, E70, fv70, by rw [show min nn 9 = 9 by omega]; exact fs70, V70, by rw [List.length_set, hus]; decide, by rw [show min nn 9 = 8 + 1 by omega]; exact own_vals (kk := 8) (by omega) (fun i hi => (hui i hi).trans (hI i hi))⟩
  · refine Win.st ?_ (fun tq kq => XS.icmpYes X0.here hx rfl (pc0 := 2) (pc' := 15) rfl (hb hby d_method_2_2) rfl (flt hc2).2.2.2 (by decide) (by decide) kq)
    show Win p e below _ s₁ (mkF mt 15 #[.val (.ref a), .val (.int (Int32.ofNat nn)), .val (.int (8 : Int32)), .val (.int v_), .val (.int w_)] [])
    exact Win.retV X0 hx hlk e0 hrt (hb hby d_method_2_15) (by decide) (by decide) ⟨rfl, N0, Z0, 8, by have q := hc2; rw [show (8 : Int32) = Int32.ofNat 8 from rfl, own_ofnat_lt (by omega) (by omega)] at q; rw [own_i8]; omega, b, k, vs, gb, nab, E, F1, by have q := hc2; rw [show (8 : Int32) = Int32.ofNat 8 from rfl, own_ofnat_lt (by omega) (by omega)] at q; rw [show min nn 9 = min nn 8 by omega]; exact F2, V, by rw [own_i8]; exact hvl, by have q := hc2; rw [show (8 : Int32) = Int32.ofNat 8 from rfl, own_ofnat_lt (by omega) (by omega)] at q; rw [show min nn 9 = min nn 8 by omega]; exact hI⟩
theorem pd_3 : parseMethodDescriptor "()V" = some ⟨[], none⟩ := by decide +kernel
theorem pd_4 : parseMethodDescriptor "(Lcom/example/kwerx/kwerx/index/IntList;IIII)V" = some ⟨[(.object "com/example/kwerx/kwerx/index/IntList"), .int, .int, .int, .int], none⟩ := by decide +kernel
theorem pd_5 : parseMethodDescriptor "()I" = some ⟨[], some .int⟩ := by decide +kernel
theorem pd_6 : parseMethodDescriptor "(I)I" = some ⟨[.int], some .int⟩ := by decide +kernel
theorem ef_law (mt : MethodId) (c_ : Int32) (v_ : Int32) (w_ : Int32) : entryFrame mt #[(.int c_), (.int v_), (.int w_)] maxLocals = mkF mt 0 #[.val (.int c_), .val (.int v_), .val (.int w_), .unset, .unset, .unset] [] := by first | (simp [entryFrame, mkF, argsToLocals, Value.category, maxLocals]; done) | rfl
def Q_law (Z : State) (c_ : Int32) (v_ : Int32) (w_ : Int32) (h0 : Heap) (n0 : Nat) (v : Option Value) (h : Heap) (L : List Loc) : Prop := v = some (.int 1) ∧ Fr n0 L
set_option maxRecDepth 65536 in
set_option maxHeartbeats 40000000 in
theorem rm_law (l : Launch) (Z : State) (a0 : Array Value) (hw : ∀ d ∈ tables_1, d.before a0 Z = true) (ws : List Jvm.Cond) (c_ : Int32) (v_ : Int32) (w_ : Int32) (h0 : Heap) (n0 : Nat) (Z0 : n0 ≤ h0.size) :
    MetFree l x (head1 (Jvm.Cond.code x code maxLocals ret :: ws) room_1) (fun aa UU => aa = #[(.int c_), (.int v_), (.int w_)] ∧ Z.Warmed39 UU.vm ∧ UU.heap = h0) (fun _ _ _ _ _ => True) (fun _ UU oo UU' => ∃ vv LL, oo = .returned vv ∧ Q_law Z c_ v_ w_ h0 n0 vv UU'.heap LL ∧ FrameEnd UU oo UU' LL 3 26) := by
  refine MetFree.of_bodySF (plainFor_of_name pn_2) hisR ?_
  intro p e s mt args below meth cd s₁ Bd hml0 hP hK
  obtain ⟨hA, hZ, hh⟩ := hP
  have hx := Bd.exec
  have hby := Bd.bytes
  have hml : cd.maxLocals = 6 := hml0
  have hown : s.vm.findClass "com/example/kwerx/kwerx/index/IntListAddPinLaw" = some mt.cls := findClass_of_methodNamed Bd.named
  have hnm := (name_of_methodNamed Bd.named Bd.method).1
  have hlk : meth.locks = false := BodyLoose.notSynchronized Bd
  have hrt := Bd.returns
  have X0 : Stand p l e room_1 s mt args below meth cd s₁ [] 0 0 := Stand.of_body Bd
  have e0 : s₁.heap = h0 := by rw [← hh, Bd.state]; rfl
  have N0 := Fr.nil n0
  show Win p e below (Ends s (Q_law Z c_ v_ w_ h0 n0) 3 26) s₁ (entryFrame mt args maxLocals)
  rw [hA, ef_law]
  refine Win.st ?_ (fun tq kq => XS.iloadN X0.here hx rfl (hb hby at_0) rfl kq)
  show Win p e below _ s₁ (mkF mt 1 #[.val (.int c_), .val (.int v_), .val (.int w_), .unset, .unset, .unset] [(.int c_)])
  refine Win.st ?_ (X0.ldcInt hx hown (mvT hZ (hw _ (List.mem_of_getElem? (i := 0) rfl))) (g := (mkF mt 1 #[.val (.int c_), .val (.int v_), .val (.int w_), .unset, .unset, .unset] [(.int c_)])) rfl (hb hby at_1))
  show Win p e below _ s₁ (mkF mt 3 #[.val (.int c_), .val (.int v_), .val (.int w_), .unset, .unset, .unset] [(.int (2147483647 : Int32)), (.int c_)])
  refine Win.st ?_ (fun tq kq => XS.iand X0.here hx rfl (hb hby at_3) rfl kq)
  show Win p e below _ s₁ (mkF mt 4 #[.val (.int c_), .val (.int v_), .val (.int w_), .unset, .unset, .unset] [(.int (c_ &&& (2147483647 : Int32)))])
  refine Win.st ?_ (fun tq kq => XS.bipush X0.here hx rfl (hb hby at_4) kq)
  show Win p e below _ s₁ (mkF mt 6 #[.val (.int c_), .val (.int v_), .val (.int w_), .unset, .unset, .unset] [(.int (10 : Int32)), (.int (c_ &&& (2147483647 : Int32)))])
  refine Win.st ?_ (fun tq kq => iremM X0 hx rfl (hb hby at_6) rfl (by decide) kq)
  show Win p e below _ s₁ (mkF mt 7 #[.val (.int c_), .val (.int v_), .val (.int w_), .unset, .unset, .unset] [(.int ((c_ &&& (2147483647 : Int32)) % (10 : Int32)))])
  obtain ⟨nn, hnn, hn⟩ : ∃ z : Nat, z ≤ 9 ∧ ((c_ &&& (2147483647 : Int32)) % (10 : Int32)) = Int32.ofNat z := by
    have q := c_mask c_ 2147483647 31 (by decide) (by decide)
    have r := (c_irem (c_ &&& 2147483647) 10 10 (by decide)).1 (by omega)
    exact ⟨_, by have := own_clamp (x := ((c_ &&& (2147483647 : Int32)) % (10 : Int32))) (by omega); omega, (own_back (by omega)).symm⟩
  rw [hn]
  show Win p e below _ s₁ (mkF mt 7 #[.val (.int c_), .val (.int v_), .val (.int w_), .unset, .unset, .unset] [(.int (Int32.ofNat nn))])
  refine Win.st ?_ (fun tq kq => XS.istoreN X0.here hx rfl (hb hby at_7) rfl (l' := #[.val (.int c_), .val (.int v_), .val (.int w_), .val (.int (Int32.ofNat nn)), .unset, .unset]) rfl kq)
  show Win p e below _ s₁ (mkF mt 8 #[.val (.int c_), .val (.int v_), .val (.int w_), .val (.int (Int32.ofNat nn)), .unset, .unset] [])
  obtain ⟨T71, h71, X71, e71, E71, A71, D71, -, st71⟩ := newO X0 hx hZ hown (hw _ (List.mem_of_getElem? (i := 1) rfl)) (hw _ (List.mem_of_getElem? (i := 2) rfl)) (hw _ (List.mem_of_getElem? (i := 3) rfl)) e0 (g := (mkF mt 8 #[.val (.int c_), .val (.int v_), .val (.int w_), .val (.int (Int32.ofNat nn)), .unset, .unset] [])) rfl (hb hby at_8) (by decide) (by decide)
  obtain ⟨b71, gq71⟩ : ∃ z, z = h0.size := ⟨_, rfl⟩
  rw [← gq71] at A71 D71 st71
  have g72 : n0 ≤ b71 := own_newle Z0 gq71
  have ke71 := own_kext E71
  replace X71 : Stand p l e _ s mt args below meth cd T71 _ 1 2 := X71
  have Z74 : n0 ≤ h71.size := Nat.le_trans Z0 ke71.1
  have fn71_values : Fld Z h71 b71 "com/example/kwerx/kwerx/index/IntList" "values" "[I" .null := D71 (Or.inl (hw _ (List.mem_of_getElem? (i := 12) rfl))) (ty := (.array .int)) (by decide)
  have fn71_size : Fld Z h71 b71 "com/example/kwerx/kwerx/index/IntList" "size" "I" (.int (0 : Int32)) := D71 (Or.inl (hw _ (List.mem_of_getElem? (i := 23) rfl))) (ty := .int) (by decide)
  refine Win.st ?_ st71
  show Win p e below _ T71 (mkF mt 11 #[.val (.int c_), .val (.int v_), .val (.int w_), .val (.int (Int32.ofNat nn)), .unset, .unset] [(.ref b71)])
  refine Win.st ?_ (fun tq kq => XS.dup X71.here hx rfl (hb hby at_11) rfl rfl kq)
  show Win p e below _ T71 (mkF mt 12 #[.val (.int c_), .val (.int v_), .val (.int w_), .val (.int (Int32.ofNat nn)), .unset, .unset] [(.ref b71), (.ref b71)])
  obtain ⟨v75, _, ⟨T75, L75, k75, n75⟩, -, X75, ⟨Lc75, hQ75, l75, y75, z75⟩, st75⟩ := X71.specialBack hx (y := (⟨"com/example/kwerx/kwerx/index/IntList", "<init>", "()V"⟩ : MethodName)) rfl hown (mvT hZ (hw _ (List.mem_of_getElem? (i := 4) rfl))) (mvT hZ (hw _ (List.mem_of_getElem? (i := 5) rfl))) (mvT hZ (hw _ (List.mem_of_getElem? (i := 6) rfl))) (by decide) (backOf (W := 1) (rm_ilinit l Z a0 hw [] b71 h71 n0 Z74 A71 fn71_values fn71_size g72) hZ (hw _ (List.mem_of_getElem? (i := 6) rfl)) (hw _ (List.mem_of_getElem? (i := 3) rfl)) (by decide) (by decide)) (g := (mkF mt 12 #[.val (.int c_), .val (.int v_), .val (.int w_), .val (.int (Int32.ofNat nn)), .unset, .unset] [(.ref b71), (.ref b71)])) rfl (by rw [hml]; rfl) (Steps.refl _) (a := b71) (argsL := []) (rest := [(.ref b71)]) (lenOf pd_3 rfl) rfl (by show 2 * 0 + _ ≤ _; exact Nat.le_of_eq rfl) (hb hby at_12) (fun _ _ => ⟨rfl, e71, (by decide : 1 + 1 ≤ _), (by decide : 2 + 8 ≤ _)⟩)
  dsimp only [Pt.U, Pt.locs, Pt.cells, Pt.slots] at X75 l75 y75 z75 st75 hQ75
  subst y75 z75
  replace X75 : Stand p l e _ s mt args below meth cd T75 L75 2 10 := X75
  obtain ⟨h75, e75⟩ : ∃ z, T75.heap = z := ⟨_, rfl⟩
  rw [e75] at hQ75
  obtain ⟨rfl, Nq75, K75, fs75, bb, kk, gb, nab, fv75, V75⟩ := hQ75
  have N75 : Fr n0 L75 := by rw [l75]; exact Fr.app N0 Nq75
  have f76_39 := A71.keep K75
  have Z77 : n0 ≤ h75.size := Nat.le_trans Z74 K75.1
  have I75 : ILm Z h75 n0 b71 v_ w_ (min nn 0) 8 := ⟨bb, kk, _, gb, nab, f76_39, fv75, by rw [show min nn 0 = 0 by omega]; exact fs75, V75, by rw [own_i8]; rfl, fun i hi => absurd hi (by omega)⟩
  refine Win.tr ?_ st75
  show Win p e below _ T75 (mkF mt 15 #[.val (.int c_), .val (.int v_), .val (.int w_), .val (.int (Int32.ofNat nn)), .unset, .unset] [(.ref b71)])
  refine Win.st ?_ (fun tq kq => XS.astore X75.here hx rfl (hb hby at_15) rfl rfl (l' := #[.val (.int c_), .val (.int v_), .val (.int w_), .val (.int (Int32.ofNat nn)), .val (.ref b71), .unset]) rfl kq)
  show Win p e below _ T75 (mkF mt 17 #[.val (.int c_), .val (.int v_), .val (.int w_), .val (.int (Int32.ofNat nn)), .val (.ref b71), .unset] [])
  refine Win.st ?_ (fun tq kq => XS.aload X75.here hx rfl (hb hby at_17) rfl rfl kq)
  show Win p e below _ T75 (mkF mt 19 #[.val (.int c_), .val (.int v_), .val (.int w_), .val (.int (Int32.ofNat nn)), .val (.ref b71), .unset] [(.ref b71)])
  refine Win.st ?_ (fun tq kq => XS.iloadN X75.here hx rfl (hb hby at_19) rfl kq)
  show Win p e below _ T75 (mkF mt 20 #[.val (.int c_), .val (.int v_), .val (.int w_), .val (.int (Int32.ofNat nn)), .val (.ref b71), .unset] [(.int (Int32.ofNat nn)), (.ref b71)])
  refine Win.st ?_ (fun tq kq => XS.iconst X75.here hx rfl (hb hby at_20) kq)
  show Win p e below _ T75 (mkF mt 21 #[.val (.int c_), .val (.int v_), .val (.int w_), .val (.int (Int32.ofNat nn)), .val (.ref b71), .unset] [(.int (0 : Int32)), (.int (Int32.ofNat nn)), (.ref b71)])
  refine Win.st ?_ (fun tq kq => XS.iloadN X75.here hx rfl (hb hby at_21) rfl kq)
  show Win p e below _ T75 (mkF mt 22 #[.val (.int c_), .val (.int v_), .val (.int w_), .val (.int (Int32.ofNat nn)), .val (.ref b71), .unset] [(.int v_), (.int (0 : Int32)), (.int (Int32.ofNat nn)), (.ref b71)])
  refine Win.st ?_ (fun tq kq => XS.iloadN X75.here hx rfl (hb hby at_22) rfl kq)
  show Win p e below _ T75 (mkF mt 23 #[.val (.int c_), .val (.int v_), .val (.int w_), .val (.int (Int32.ofNat nn)), .val (.ref b71), .unset] [(.int w_), (.int v_), (.int (0 : Int32)), (.int (Int32.ofNat nn)), (.ref b71)])
  obtain ⟨v78, _, ⟨T78, L78, k78, n78⟩, -, X78, ⟨Lc78, hQ78, l78, y78, z78⟩, st78⟩ := Jvm.LawKit.callS X75 hx (y := (⟨"com/example/kwerx/kwerx/index/IntListAddPinLaw", "step", "(Lcom/example/kwerx/kwerx/index/IntList;IIII)V"⟩ : MethodName)) hown (mvT hZ (hw _ (List.mem_of_getElem? (i := 13) rfl))) (mvT hZ (hw _ (List.mem_of_getElem? (i := 14) rfl))) (mvT hZ (hw _ (List.mem_of_getElem? (i := 15) rfl))) (mvT hZ (hw _ (List.mem_of_getElem? (i := 16) rfl))) (by decide) (backOf (W := 0) (rm_step l Z a0 hw [] b71 v_ w_ nn 0 h75 n0 Z77 hnn (by decide) g72 I75) hZ (hw _ (List.mem_of_getElem? (i := 16) rfl)) (hw _ (List.mem_of_getElem? (i := 15) rfl)) (by decide) (by decide)) (g := (mkF mt 23 #[.val (.int c_), .val (.int v_), .val (.int w_), .val (.int (Int32.ofNat nn)), .val (.ref b71), .unset] [(.int w_), (.int v_), (.int (0 : Int32)), (.int (Int32.ofNat nn)), (.ref b71)])) rfl (by rw [hml]; rfl) (argsL := [(.ref b71), (.int (Int32.ofNat nn)), (.int (0 : Int32)), (.int v_), (.int w_)]) (rest := []) (lenOf pd_4 rfl) rfl (by show 2 * 0 + _ ≤ _; exact Nat.le_of_eq rfl) (hb hby at_23) (fun _ _ => ⟨rfl, e75, (by decide : 2 + 0 ≤ _), (by decide : 10 + 0 ≤ _)⟩)
  dsimp only [Pt.U, Pt.locs, Pt.cells, Pt.slots] at X78 l78 y78 z78 st78 hQ78
  subst y78 z78
  replace X78 : Stand p l e _ s mt args below meth cd T78 L78 2 10 := X78
  obtain ⟨h78, e78⟩ : ∃ z, T78.heap = z := ⟨_, rfl⟩
  rw [e78] at hQ78
  obtain ⟨rfl, Nq78, z78, I78⟩ := hQ78
  have N78 : Fr n0 L78 := by rw [l78]; exact Fr.app N75 Nq78
  refine Win.st ?_ st78
  show Win p e below _ T78 (mkF mt 26 #[.val (.int c_), .val (.int v_), .val (.int w_), .val (.int (Int32.ofNat nn)), .val (.ref b71), .unset] [])
  refine Win.st ?_ (fun tq kq => XS.aload X78.here hx rfl (hb hby at_26) rfl rfl kq)
  show Win p e below _ T78 (mkF mt 28 #[.val (.int c_), .val (.int v_), .val (.int w_), .val (.int (Int32.ofNat nn)), .val (.ref b71), .unset] [(.ref b71)])
  refine Win.st ?_ (fun tq kq => XS.iloadN X78.here hx rfl (hb hby at_28) rfl kq)
  show Win p e below _ T78 (mkF mt 29 #[.val (.int c_), .val (.int v_), .val (.int w_), .val (.int (Int32.ofNat nn)), .val (.ref b71), .unset] [(.int (Int32.ofNat nn)), (.ref b71)])
  refine Win.st ?_ (fun tq kq => XS.iconst X78.here hx rfl (hb hby at_29) kq)
  show Win p e below _ T78 (mkF mt 30 #[.val (.int c_), .val (.int v_), .val (.int w_), .val (.int (Int32.ofNat nn)), .val (.ref b71), .unset] [(.int (1 : Int32)), (.int (Int32.ofNat nn)), (.ref b71)])
  refine Win.st ?_ (fun tq kq => XS.iloadN X78.here hx rfl (hb hby at_30) rfl kq)
  show Win p e below _ T78 (mkF mt 31 #[.val (.int c_), .val (.int v_), .val (.int w_), .val (.int (Int32.ofNat nn)), .val (.ref b71), .unset] [(.int v_), (.int (1 : Int32)), (.int (Int32.ofNat nn)), (.ref b71)])
  refine Win.st ?_ (fun tq kq => XS.iloadN X78.here hx rfl (hb hby at_31) rfl kq)
  show Win p e below _ T78 (mkF mt 32 #[.val (.int c_), .val (.int v_), .val (.int w_), .val (.int (Int32.ofNat nn)), .val (.ref b71), .unset] [(.int w_), (.int v_), (.int (1 : Int32)), (.int (Int32.ofNat nn)), (.ref b71)])
  obtain ⟨v79, _, ⟨T79, L79, k79, n79⟩, -, X79, ⟨Lc79, hQ79, l79, y79, z79⟩, st79⟩ := Jvm.LawKit.callS X78 hx (y := (⟨"com/example/kwerx/kwerx/index/IntListAddPinLaw", "step", "(Lcom/example/kwerx/kwerx/index/IntList;IIII)V"⟩ : MethodName)) hown (mvT hZ (hw _ (List.mem_of_getElem? (i := 13) rfl))) (mvT hZ (hw _ (List.mem_of_getElem? (i := 14) rfl))) (mvT hZ (hw _ (List.mem_of_getElem? (i := 15) rfl))) (mvT hZ (hw _ (List.mem_of_getElem? (i := 16) rfl))) (by decide) (backOf (W := 0) (rm_step l Z a0 hw [] b71 v_ w_ nn 1 h78 n0 z78 hnn (by decide) g72 I78) hZ (hw _ (List.mem_of_getElem? (i := 16) rfl)) (hw _ (List.mem_of_getElem? (i := 15) rfl)) (by decide) (by decide)) (g := (mkF mt 32 #[.val (.int c_), .val (.int v_), .val (.int w_), .val (.int (Int32.ofNat nn)), .val (.ref b71), .unset] [(.int w_), (.int v_), (.int (1 : Int32)), (.int (Int32.ofNat nn)), (.ref b71)])) rfl (by rw [hml]; rfl) (argsL := [(.ref b71), (.int (Int32.ofNat nn)), (.int (1 : Int32)), (.int v_), (.int w_)]) (rest := []) (lenOf pd_4 rfl) rfl (by show 2 * 0 + _ ≤ _; exact Nat.le_of_eq rfl) (hb hby at_32) (fun _ _ => ⟨rfl, e78, (by decide : 2 + 0 ≤ _), (by decide : 10 + 0 ≤ _)⟩)
  dsimp only [Pt.U, Pt.locs, Pt.cells, Pt.slots] at X79 l79 y79 z79 st79 hQ79
  subst y79 z79
  replace X79 : Stand p l e _ s mt args below meth cd T79 L79 2 10 := X79
  obtain ⟨h79, e79⟩ : ∃ z, T79.heap = z := ⟨_, rfl⟩
  rw [e79] at hQ79
  obtain ⟨rfl, Nq79, z79, I79⟩ := hQ79
  have N79 : Fr n0 L79 := by rw [l79]; exact Fr.app N78 Nq79
  refine Win.st ?_ st79
  show Win p e below _ T79 (mkF mt 35 #[.val (.int c_), .val (.int v_), .val (.int w_), .val (.int (Int32.ofNat nn)), .val (.ref b71), .unset] [])
  refine Win.st ?_ (fun tq kq => XS.aload X79.here hx rfl (hb hby at_35) rfl rfl kq)
  show Win p e below _ T79 (mkF mt 37 #[.val (.int c_), .val (.int v_), .val (.int w_), .val (.int (Int32.ofNat nn)), .val (.ref b71), .unset] [(.ref b71)])
  refine Win.st ?_ (fun tq kq => XS.iloadN X79.here hx rfl (hb hby at_37) rfl kq)
  show Win p e below _ T79 (mkF mt 38 #[.val (.int c_), .val (.int v_), .val (.int w_), .val (.int (Int32.ofNat nn)), .val (.ref b71), .unset] [(.int (Int32.ofNat nn)), (.ref b71)])
  refine Win.st ?_ (fun tq kq => XS.iconst X79.here hx rfl (hb hby at_38) kq)
  show Win p e below _ T79 (mkF mt 39 #[.val (.int c_), .val (.int v_), .val (.int w_), .val (.int (Int32.ofNat nn)), .val (.ref b71), .unset] [(.int (2 : Int32)), (.int (Int32.ofNat nn)), (.ref b71)])
  refine Win.st ?_ (fun tq kq => XS.iloadN X79.here hx rfl (hb hby at_39) rfl kq)
  show Win p e below _ T79 (mkF mt 40 #[.val (.int c_), .val (.int v_), .val (.int w_), .val (.int (Int32.ofNat nn)), .val (.ref b71), .unset] [(.int v_), (.int (2 : Int32)), (.int (Int32.ofNat nn)), (.ref b71)])
  refine Win.st ?_ (fun tq kq => XS.iloadN X79.here hx rfl (hb hby at_40) rfl kq)
  show Win p e below _ T79 (mkF mt 41 #[.val (.int c_), .val (.int v_), .val (.int w_), .val (.int (Int32.ofNat nn)), .val (.ref b71), .unset] [(.int w_), (.int v_), (.int (2 : Int32)), (.int (Int32.ofNat nn)), (.ref b71)])
  obtain ⟨v80, _, ⟨T80, L80, k80, n80⟩, -, X80, ⟨Lc80, hQ80, l80, y80, z80⟩, st80⟩ := Jvm.LawKit.callS X79 hx (y := (⟨"com/example/kwerx/kwerx/index/IntListAddPinLaw", "step", "(Lcom/example/kwerx/kwerx/index/IntList;IIII)V"⟩ : MethodName)) hown (mvT hZ (hw _ (List.mem_of_getElem? (i := 13) rfl))) (mvT hZ (hw _ (List.mem_of_getElem? (i := 14) rfl))) (mvT hZ (hw _ (List.mem_of_getElem? (i := 15) rfl))) (mvT hZ (hw _ (List.mem_of_getElem? (i := 16) rfl))) (by decide) (backOf (W := 0) (rm_step l Z a0 hw [] b71 v_ w_ nn 2 h79 n0 z79 hnn (by decide) g72 I79) hZ (hw _ (List.mem_of_getElem? (i := 16) rfl)) (hw _ (List.mem_of_getElem? (i := 15) rfl)) (by decide) (by decide)) (g := (mkF mt 41 #[.val (.int c_), .val (.int v_), .val (.int w_), .val (.int (Int32.ofNat nn)), .val (.ref b71), .unset] [(.int w_), (.int v_), (.int (2 : Int32)), (.int (Int32.ofNat nn)), (.ref b71)])) rfl (by rw [hml]; rfl) (argsL := [(.ref b71), (.int (Int32.ofNat nn)), (.int (2 : Int32)), (.int v_), (.int w_)]) (rest := []) (lenOf pd_4 rfl) rfl (by show 2 * 0 + _ ≤ _; exact Nat.le_of_eq rfl) (hb hby at_41) (fun _ _ => ⟨rfl, e79, (by decide : 2 + 0 ≤ _), (by decide : 10 + 0 ≤ _)⟩)
  dsimp only [Pt.U, Pt.locs, Pt.cells, Pt.slots] at X80 l80 y80 z80 st80 hQ80
  subst y80 z80
  replace X80 : Stand p l e _ s mt args below meth cd T80 L80 2 10 := X80
  obtain ⟨h80, e80⟩ : ∃ z, T80.heap = z := ⟨_, rfl⟩
  rw [e80] at hQ80
  obtain ⟨rfl, Nq80, z80, I80⟩ := hQ80
  have N80 : Fr n0 L80 := by rw [l80]; exact Fr.app N79 Nq80
  refine Win.st ?_ st80
  show Win p e below _ T80 (mkF mt 44 #[.val (.int c_), .val (.int v_), .val (.int w_), .val (.int (Int32.ofNat nn)), .val (.ref b71), .unset] [])
  refine Win.st ?_ (fun tq kq => XS.aload X80.here hx rfl (hb hby at_44) rfl rfl kq)
  show Win p e below _ T80 (mkF mt 46 #[.val (.int c_), .val (.int v_), .val (.int w_), .val (.int (Int32.ofNat nn)), .val (.ref b71), .unset] [(.ref b71)])
  refine Win.st ?_ (fun tq kq => XS.iloadN X80.here hx rfl (hb hby at_46) rfl kq)
  show Win p e below _ T80 (mkF mt 47 #[.val (.int c_), .val (.int v_), .val (.int w_), .val (.int (Int32.ofNat nn)), .val (.ref b71), .unset] [(.int (Int32.ofNat nn)), (.ref b71)])
  refine Win.st ?_ (fun tq kq => XS.iconst X80.here hx rfl (hb hby at_47) kq)
  show Win p e below _ T80 (mkF mt 48 #[.val (.int c_), .val (.int v_), .val (.int w_), .val (.int (Int32.ofNat nn)), .val (.ref b71), .unset] [(.int (3 : Int32)), (.int (Int32.ofNat nn)), (.ref b71)])
  refine Win.st ?_ (fun tq kq => XS.iloadN X80.here hx rfl (hb hby at_48) rfl kq)
  show Win p e below _ T80 (mkF mt 49 #[.val (.int c_), .val (.int v_), .val (.int w_), .val (.int (Int32.ofNat nn)), .val (.ref b71), .unset] [(.int v_), (.int (3 : Int32)), (.int (Int32.ofNat nn)), (.ref b71)])
  refine Win.st ?_ (fun tq kq => XS.iloadN X80.here hx rfl (hb hby at_49) rfl kq)
  show Win p e below _ T80 (mkF mt 50 #[.val (.int c_), .val (.int v_), .val (.int w_), .val (.int (Int32.ofNat nn)), .val (.ref b71), .unset] [(.int w_), (.int v_), (.int (3 : Int32)), (.int (Int32.ofNat nn)), (.ref b71)])
  obtain ⟨v81, _, ⟨T81, L81, k81, n81⟩, -, X81, ⟨Lc81, hQ81, l81, y81, z81⟩, st81⟩ := Jvm.LawKit.callS X80 hx (y := (⟨"com/example/kwerx/kwerx/index/IntListAddPinLaw", "step", "(Lcom/example/kwerx/kwerx/index/IntList;IIII)V"⟩ : MethodName)) hown (mvT hZ (hw _ (List.mem_of_getElem? (i := 13) rfl))) (mvT hZ (hw _ (List.mem_of_getElem? (i := 14) rfl))) (mvT hZ (hw _ (List.mem_of_getElem? (i := 15) rfl))) (mvT hZ (hw _ (List.mem_of_getElem? (i := 16) rfl))) (by decide) (backOf (W := 0) (rm_step l Z a0 hw [] b71 v_ w_ nn 3 h80 n0 z80 hnn (by decide) g72 I80) hZ (hw _ (List.mem_of_getElem? (i := 16) rfl)) (hw _ (List.mem_of_getElem? (i := 15) rfl)) (by decide) (by decide)) (g := (mkF mt 50 #[.val (.int c_), .val (.int v_), .val (.int w_), .val (.int (Int32.ofNat nn)), .val (.ref b71), .unset] [(.int w_), (.int v_), (.int (3 : Int32)), (.int (Int32.ofNat nn)), (.ref b71)])) rfl (by rw [hml]; rfl) (argsL := [(.ref b71), (.int (Int32.ofNat nn)), (.int (3 : Int32)), (.int v_), (.int w_)]) (rest := []) (lenOf pd_4 rfl) rfl (by show 2 * 0 + _ ≤ _; exact Nat.le_of_eq rfl) (hb hby at_50) (fun _ _ => ⟨rfl, e80, (by decide : 2 + 0 ≤ _), (by decide : 10 + 0 ≤ _)⟩)
  dsimp only [Pt.U, Pt.locs, Pt.cells, Pt.slots] at X81 l81 y81 z81 st81 hQ81
  subst y81 z81
  replace X81 : Stand p l e _ s mt args below meth cd T81 L81 2 10 := X81
  obtain ⟨h81, e81⟩ : ∃ z, T81.heap = z := ⟨_, rfl⟩
  rw [e81] at hQ81
  obtain ⟨rfl, Nq81, z81, I81⟩ := hQ81
  have N81 : Fr n0 L81 := by rw [l81]; exact Fr.app N80 Nq81
  refine Win.st ?_ st81
  show Win p e below _ T81 (mkF mt 53 #[.val (.int c_), .val (.int v_), .val (.int w_), .val (.int (Int32.ofNat nn)), .val (.ref b71), .unset] [])
  refine Win.st ?_ (fun tq kq => XS.aload X81.here hx rfl (hb hby at_53) rfl rfl kq)
  show Win p e below _ T81 (mkF mt 55 #[.val (.int c_), .val (.int v_), .val (.int w_), .val (.int (Int32.ofNat nn)), .val (.ref b71), .unset] [(.ref b71)])
  refine Win.st ?_ (fun tq kq => XS.iloadN X81.here hx rfl (hb hby at_55) rfl kq)
  show Win p e below _ T81 (mkF mt 56 #[.val (.int c_), .val (.int v_), .val (.int w_), .val (.int (Int32.ofNat nn)), .val (.ref b71), .unset] [(.int (Int32.ofNat nn)), (.ref b71)])
  refine Win.st ?_ (fun tq kq => XS.iconst X81.here hx rfl (hb hby at_56) kq)
  show Win p e below _ T81 (mkF mt 57 #[.val (.int c_), .val (.int v_), .val (.int w_), .val (.int (Int32.ofNat nn)), .val (.ref b71), .unset] [(.int (4 : Int32)), (.int (Int32.ofNat nn)), (.ref b71)])
  refine Win.st ?_ (fun tq kq => XS.iloadN X81.here hx rfl (hb hby at_57) rfl kq)
  show Win p e below _ T81 (mkF mt 58 #[.val (.int c_), .val (.int v_), .val (.int w_), .val (.int (Int32.ofNat nn)), .val (.ref b71), .unset] [(.int v_), (.int (4 : Int32)), (.int (Int32.ofNat nn)), (.ref b71)])
  refine Win.st ?_ (fun tq kq => XS.iloadN X81.here hx rfl (hb hby at_58) rfl kq)
  show Win p e below _ T81 (mkF mt 59 #[.val (.int c_), .val (.int v_), .val (.int w_), .val (.int (Int32.ofNat nn)), .val (.ref b71), .unset] [(.int w_), (.int v_), (.int (4 : Int32)), (.int (Int32.ofNat nn)), (.ref b71)])
  obtain ⟨v82, _, ⟨T82, L82, k82, n82⟩, -, X82, ⟨Lc82, hQ82, l82, y82, z82⟩, st82⟩ := Jvm.LawKit.callS X81 hx (y := (⟨"com/example/kwerx/kwerx/index/IntListAddPinLaw", "step", "(Lcom/example/kwerx/kwerx/index/IntList;IIII)V"⟩ : MethodName)) hown (mvT hZ (hw _ (List.mem_of_getElem? (i := 13) rfl))) (mvT hZ (hw _ (List.mem_of_getElem? (i := 14) rfl))) (mvT hZ (hw _ (List.mem_of_getElem? (i := 15) rfl))) (mvT hZ (hw _ (List.mem_of_getElem? (i := 16) rfl))) (by decide) (backOf (W := 0) (rm_step l Z a0 hw [] b71 v_ w_ nn 4 h81 n0 z81 hnn (by decide) g72 I81) hZ (hw _ (List.mem_of_getElem? (i := 16) rfl)) (hw _ (List.mem_of_getElem? (i := 15) rfl)) (by decide) (by decide)) (g := (mkF mt 59 #[.val (.int c_), .val (.int v_), .val (.int w_), .val (.int (Int32.ofNat nn)), .val (.ref b71), .unset] [(.int w_), (.int v_), (.int (4 : Int32)), (.int (Int32.ofNat nn)), (.ref b71)])) rfl (by rw [hml]; rfl) (argsL := [(.ref b71), (.int (Int32.ofNat nn)), (.int (4 : Int32)), (.int v_), (.int w_)]) (rest := []) (lenOf pd_4 rfl) rfl (by show 2 * 0 + _ ≤ _; exact Nat.le_of_eq rfl) (hb hby at_59) (fun _ _ => ⟨rfl, e81, (by decide : 2 + 0 ≤ _), (by decide : 10 + 0 ≤ _)⟩)
  dsimp only [Pt.U, Pt.locs, Pt.cells, Pt.slots] at X82 l82 y82 z82 st82 hQ82
  subst y82 z82
  replace X82 : Stand p l e _ s mt args below meth cd T82 L82 2 10 := X82
  obtain ⟨h82, e82⟩ : ∃ z, T82.heap = z := ⟨_, rfl⟩
  rw [e82] at hQ82
  obtain ⟨rfl, Nq82, z82, I82⟩ := hQ82
  have N82 : Fr n0 L82 := by rw [l82]; exact Fr.app N81 Nq82
  refine Win.st ?_ st82
  show Win p e below _ T82 (mkF mt 62 #[.val (.int c_), .val (.int v_), .val (.int w_), .val (.int (Int32.ofNat nn)), .val (.ref b71), .unset] [])
  refine Win.st ?_ (fun tq kq => XS.aload X82.here hx rfl (hb hby at_62) rfl rfl kq)
  show Win p e below _ T82 (mkF mt 64 #[.val (.int c_), .val (.int v_), .val (.int w_), .val (.int (Int32.ofNat nn)), .val (.ref b71), .unset] [(.ref b71)])
  refine Win.st ?_ (fun tq kq => XS.iloadN X82.here hx rfl (hb hby at_64) rfl kq)
  show Win p e below _ T82 (mkF mt 65 #[.val (.int c_), .val (.int v_), .val (.int w_), .val (.int (Int32.ofNat nn)), .val (.ref b71), .unset] [(.int (Int32.ofNat nn)), (.ref b71)])
  refine Win.st ?_ (fun tq kq => XS.iconst X82.here hx rfl (hb hby at_65) kq)
  show Win p e below _ T82 (mkF mt 66 #[.val (.int c_), .val (.int v_), .val (.int w_), .val (.int (Int32.ofNat nn)), .val (.ref b71), .unset] [(.int (5 : Int32)), (.int (Int32.ofNat nn)), (.ref b71)])
  refine Win.st ?_ (fun tq kq => XS.iloadN X82.here hx rfl (hb hby at_66) rfl kq)
  show Win p e below _ T82 (mkF mt 67 #[.val (.int c_), .val (.int v_), .val (.int w_), .val (.int (Int32.ofNat nn)), .val (.ref b71), .unset] [(.int v_), (.int (5 : Int32)), (.int (Int32.ofNat nn)), (.ref b71)])
  refine Win.st ?_ (fun tq kq => XS.iloadN X82.here hx rfl (hb hby at_67) rfl kq)
  show Win p e below _ T82 (mkF mt 68 #[.val (.int c_), .val (.int v_), .val (.int w_), .val (.int (Int32.ofNat nn)), .val (.ref b71), .unset] [(.int w_), (.int v_), (.int (5 : Int32)), (.int (Int32.ofNat nn)), (.ref b71)])
  obtain ⟨v83, _, ⟨T83, L83, k83, n83⟩, -, X83, ⟨Lc83, hQ83, l83, y83, z83⟩, st83⟩ := Jvm.LawKit.callS X82 hx (y := (⟨"com/example/kwerx/kwerx/index/IntListAddPinLaw", "step", "(Lcom/example/kwerx/kwerx/index/IntList;IIII)V"⟩ : MethodName)) hown (mvT hZ (hw _ (List.mem_of_getElem? (i := 13) rfl))) (mvT hZ (hw _ (List.mem_of_getElem? (i := 14) rfl))) (mvT hZ (hw _ (List.mem_of_getElem? (i := 15) rfl))) (mvT hZ (hw _ (List.mem_of_getElem? (i := 16) rfl))) (by decide) (backOf (W := 0) (rm_step l Z a0 hw [] b71 v_ w_ nn 5 h82 n0 z82 hnn (by decide) g72 I82) hZ (hw _ (List.mem_of_getElem? (i := 16) rfl)) (hw _ (List.mem_of_getElem? (i := 15) rfl)) (by decide) (by decide)) (g := (mkF mt 68 #[.val (.int c_), .val (.int v_), .val (.int w_), .val (.int (Int32.ofNat nn)), .val (.ref b71), .unset] [(.int w_), (.int v_), (.int (5 : Int32)), (.int (Int32.ofNat nn)), (.ref b71)])) rfl (by rw [hml]; rfl) (argsL := [(.ref b71), (.int (Int32.ofNat nn)), (.int (5 : Int32)), (.int v_), (.int w_)]) (rest := []) (lenOf pd_4 rfl) rfl (by show 2 * 0 + _ ≤ _; exact Nat.le_of_eq rfl) (hb hby at_68) (fun _ _ => ⟨rfl, e82, (by decide : 2 + 0 ≤ _), (by decide : 10 + 0 ≤ _)⟩)
  dsimp only [Pt.U, Pt.locs, Pt.cells, Pt.slots] at X83 l83 y83 z83 st83 hQ83
  subst y83 z83
  replace X83 : Stand p l e _ s mt args below meth cd T83 L83 2 10 := X83
  obtain ⟨h83, e83⟩ : ∃ z, T83.heap = z := ⟨_, rfl⟩
  rw [e83] at hQ83
  obtain ⟨rfl, Nq83, z83, I83⟩ := hQ83
  have N83 : Fr n0 L83 := by rw [l83]; exact Fr.app N82 Nq83
  refine Win.st ?_ st83
  show Win p e below _ T83 (mkF mt 71 #[.val (.int c_), .val (.int v_), .val (.int w_), .val (.int (Int32.ofNat nn)), .val (.ref b71), .unset] [])
  refine Win.st ?_ (fun tq kq => XS.aload X83.here hx rfl (hb hby at_71) rfl rfl kq)
  show Win p e below _ T83 (mkF mt 73 #[.val (.int c_), .val (.int v_), .val (.int w_), .val (.int (Int32.ofNat nn)), .val (.ref b71), .unset] [(.ref b71)])
  refine Win.st ?_ (fun tq kq => XS.iloadN X83.here hx rfl (hb hby at_73) rfl kq)
  show Win p e below _ T83 (mkF mt 74 #[.val (.int c_), .val (.int v_), .val (.int w_), .val (.int (Int32.ofNat nn)), .val (.ref b71), .unset] [(.int (Int32.ofNat nn)), (.ref b71)])
  refine Win.st ?_ (fun tq kq => XS.bipush X83.here hx rfl (hb hby at_74) kq)
  show Win p e below _ T83 (mkF mt 76 #[.val (.int c_), .val (.int v_), .val (.int w_), .val (.int (Int32.ofNat nn)), .val (.ref b71), .unset] [(.int (6 : Int32)), (.int (Int32.ofNat nn)), (.ref b71)])
  refine Win.st ?_ (fun tq kq => XS.iloadN X83.here hx rfl (hb hby at_76) rfl kq)
  show Win p e below _ T83 (mkF mt 77 #[.val (.int c_), .val (.int v_), .val (.int w_), .val (.int (Int32.ofNat nn)), .val (.ref b71), .unset] [(.int v_), (.int (6 : Int32)), (.int (Int32.ofNat nn)), (.ref b71)])
  refine Win.st ?_ (fun tq kq => XS.iloadN X83.here hx rfl (hb hby at_77) rfl kq)
  show Win p e below _ T83 (mkF mt 78 #[.val (.int c_), .val (.int v_), .val (.int w_), .val (.int (Int32.ofNat nn)), .val (.ref b71), .unset] [(.int w_), (.int v_), (.int (6 : Int32)), (.int (Int32.ofNat nn)), (.ref b71)])
  obtain ⟨v84, _, ⟨T84, L84, k84, n84⟩, -, X84, ⟨Lc84, hQ84, l84, y84, z84⟩, st84⟩ := Jvm.LawKit.callS X83 hx (y := (⟨"com/example/kwerx/kwerx/index/IntListAddPinLaw", "step", "(Lcom/example/kwerx/kwerx/index/IntList;IIII)V"⟩ : MethodName)) hown (mvT hZ (hw _ (List.mem_of_getElem? (i := 13) rfl))) (mvT hZ (hw _ (List.mem_of_getElem? (i := 14) rfl))) (mvT hZ (hw _ (List.mem_of_getElem? (i := 15) rfl))) (mvT hZ (hw _ (List.mem_of_getElem? (i := 16) rfl))) (by decide) (backOf (W := 0) (rm_step l Z a0 hw [] b71 v_ w_ nn 6 h83 n0 z83 hnn (by decide) g72 I83) hZ (hw _ (List.mem_of_getElem? (i := 16) rfl)) (hw _ (List.mem_of_getElem? (i := 15) rfl)) (by decide) (by decide)) (g := (mkF mt 78 #[.val (.int c_), .val (.int v_), .val (.int w_), .val (.int (Int32.ofNat nn)), .val (.ref b71), .unset] [(.int w_), (.int v_), (.int (6 : Int32)), (.int (Int32.ofNat nn)), (.ref b71)])) rfl (by rw [hml]; rfl) (argsL := [(.ref b71), (.int (Int32.ofNat nn)), (.int (6 : Int32)), (.int v_), (.int w_)]) (rest := []) (lenOf pd_4 rfl) rfl (by show 2 * 0 + _ ≤ _; exact Nat.le_of_eq rfl) (hb hby at_78) (fun _ _ => ⟨rfl, e83, (by decide : 2 + 0 ≤ _), (by decide : 10 + 0 ≤ _)⟩)
  dsimp only [Pt.U, Pt.locs, Pt.cells, Pt.slots] at X84 l84 y84 z84 st84 hQ84
  subst y84 z84
  replace X84 : Stand p l e _ s mt args below meth cd T84 L84 2 10 := X84
  obtain ⟨h84, e84⟩ : ∃ z, T84.heap = z := ⟨_, rfl⟩
  rw [e84] at hQ84
  obtain ⟨rfl, Nq84, z84, I84⟩ := hQ84
  have N84 : Fr n0 L84 := by rw [l84]; exact Fr.app N83 Nq84
  refine Win.st ?_ st84
  show Win p e below _ T84 (mkF mt 81 #[.val (.int c_), .val (.int v_), .val (.int w_), .val (.int (Int32.ofNat nn)), .val (.ref b71), .unset] [])
  refine Win.st ?_ (fun tq kq => XS.aload X84.here hx rfl (hb hby at_81) rfl rfl kq)
  show Win p e below _ T84 (mkF mt 83 #[.val (.int c_), .val (.int v_), .val (.int w_), .val (.int (Int32.ofNat nn)), .val (.ref b71), .unset] [(.ref b71)])
  refine Win.st ?_ (fun tq kq => XS.iloadN X84.here hx rfl (hb hby at_83) rfl kq)
  show Win p e below _ T84 (mkF mt 84 #[.val (.int c_), .val (.int v_), .val (.int w_), .val (.int (Int32.ofNat nn)), .val (.ref b71), .unset] [(.int (Int32.ofNat nn)), (.ref b71)])
  refine Win.st ?_ (fun tq kq => XS.bipush X84.here hx rfl (hb hby at_84) kq)
  show Win p e below _ T84 (mkF mt 86 #[.val (.int c_), .val (.int v_), .val (.int w_), .val (.int (Int32.ofNat nn)), .val (.ref b71), .unset] [(.int (7 : Int32)), (.int (Int32.ofNat nn)), (.ref b71)])
  refine Win.st ?_ (fun tq kq => XS.iloadN X84.here hx rfl (hb hby at_86) rfl kq)
  show Win p e below _ T84 (mkF mt 87 #[.val (.int c_), .val (.int v_), .val (.int w_), .val (.int (Int32.ofNat nn)), .val (.ref b71), .unset] [(.int v_), (.int (7 : Int32)), (.int (Int32.ofNat nn)), (.ref b71)])
  refine Win.st ?_ (fun tq kq => XS.iloadN X84.here hx rfl (hb hby at_87) rfl kq)
  show Win p e below _ T84 (mkF mt 88 #[.val (.int c_), .val (.int v_), .val (.int w_), .val (.int (Int32.ofNat nn)), .val (.ref b71), .unset] [(.int w_), (.int v_), (.int (7 : Int32)), (.int (Int32.ofNat nn)), (.ref b71)])
  obtain ⟨v85, _, ⟨T85, L85, k85, n85⟩, -, X85, ⟨Lc85, hQ85, l85, y85, z85⟩, st85⟩ := Jvm.LawKit.callS X84 hx (y := (⟨"com/example/kwerx/kwerx/index/IntListAddPinLaw", "step", "(Lcom/example/kwerx/kwerx/index/IntList;IIII)V"⟩ : MethodName)) hown (mvT hZ (hw _ (List.mem_of_getElem? (i := 13) rfl))) (mvT hZ (hw _ (List.mem_of_getElem? (i := 14) rfl))) (mvT hZ (hw _ (List.mem_of_getElem? (i := 15) rfl))) (mvT hZ (hw _ (List.mem_of_getElem? (i := 16) rfl))) (by decide) (backOf (W := 0) (rm_step l Z a0 hw [] b71 v_ w_ nn 7 h84 n0 z84 hnn (by decide) g72 I84) hZ (hw _ (List.mem_of_getElem? (i := 16) rfl)) (hw _ (List.mem_of_getElem? (i := 15) rfl)) (by decide) (by decide)) (g := (mkF mt 88 #[.val (.int c_), .val (.int v_), .val (.int w_), .val (.int (Int32.ofNat nn)), .val (.ref b71), .unset] [(.int w_), (.int v_), (.int (7 : Int32)), (.int (Int32.ofNat nn)), (.ref b71)])) rfl (by rw [hml]; rfl) (argsL := [(.ref b71), (.int (Int32.ofNat nn)), (.int (7 : Int32)), (.int v_), (.int w_)]) (rest := []) (lenOf pd_4 rfl) rfl (by show 2 * 0 + _ ≤ _; exact Nat.le_of_eq rfl) (hb hby at_88) (fun _ _ => ⟨rfl, e84, (by decide : 2 + 0 ≤ _), (by decide : 10 + 0 ≤ _)⟩)
  dsimp only [Pt.U, Pt.locs, Pt.cells, Pt.slots] at X85 l85 y85 z85 st85 hQ85
  subst y85 z85
  replace X85 : Stand p l e _ s mt args below meth cd T85 L85 2 10 := X85
  obtain ⟨h85, e85⟩ : ∃ z, T85.heap = z := ⟨_, rfl⟩
  rw [e85] at hQ85
  obtain ⟨rfl, Nq85, z85, I85⟩ := hQ85
  have N85 : Fr n0 L85 := by rw [l85]; exact Fr.app N84 Nq85
  refine Win.st ?_ st85
  show Win p e below _ T85 (mkF mt 91 #[.val (.int c_), .val (.int v_), .val (.int w_), .val (.int (Int32.ofNat nn)), .val (.ref b71), .unset] [])
  refine Win.st ?_ (fun tq kq => XS.aload X85.here hx rfl (hb hby at_91) rfl rfl kq)
  show Win p e below _ T85 (mkF mt 93 #[.val (.int c_), .val (.int v_), .val (.int w_), .val (.int (Int32.ofNat nn)), .val (.ref b71), .unset] [(.ref b71)])
  refine Win.st ?_ (fun tq kq => XS.iloadN X85.here hx rfl (hb hby at_93) rfl kq)
  show Win p e below _ T85 (mkF mt 94 #[.val (.int c_), .val (.int v_), .val (.int w_), .val (.int (Int32.ofNat nn)), .val (.ref b71), .unset] [(.int (Int32.ofNat nn)), (.ref b71)])
  refine Win.st ?_ (fun tq kq => XS.bipush X85.here hx rfl (hb hby at_94) kq)
  show Win p e below _ T85 (mkF mt 96 #[.val (.int c_), .val (.int v_), .val (.int w_), .val (.int (Int32.ofNat nn)), .val (.ref b71), .unset] [(.int (8 : Int32)), (.int (Int32.ofNat nn)), (.ref b71)])
  refine Win.st ?_ (fun tq kq => XS.iloadN X85.here hx rfl (hb hby at_96) rfl kq)
  show Win p e below _ T85 (mkF mt 97 #[.val (.int c_), .val (.int v_), .val (.int w_), .val (.int (Int32.ofNat nn)), .val (.ref b71), .unset] [(.int v_), (.int (8 : Int32)), (.int (Int32.ofNat nn)), (.ref b71)])
  refine Win.st ?_ (fun tq kq => XS.iloadN X85.here hx rfl (hb hby at_97) rfl kq)
  show Win p e below _ T85 (mkF mt 98 #[.val (.int c_), .val (.int v_), .val (.int w_), .val (.int (Int32.ofNat nn)), .val (.ref b71), .unset] [(.int w_), (.int v_), (.int (8 : Int32)), (.int (Int32.ofNat nn)), (.ref b71)])
  obtain ⟨v86, _, ⟨T86, L86, k86, n86⟩, -, X86, ⟨Lc86, hQ86, l86, y86, z86⟩, st86⟩ := Jvm.LawKit.callS X85 hx (y := (⟨"com/example/kwerx/kwerx/index/IntListAddPinLaw", "step", "(Lcom/example/kwerx/kwerx/index/IntList;IIII)V"⟩ : MethodName)) hown (mvT hZ (hw _ (List.mem_of_getElem? (i := 13) rfl))) (mvT hZ (hw _ (List.mem_of_getElem? (i := 14) rfl))) (mvT hZ (hw _ (List.mem_of_getElem? (i := 15) rfl))) (mvT hZ (hw _ (List.mem_of_getElem? (i := 16) rfl))) (by decide) (backOf (W := 0) (rm_step8 l Z a0 hw [] b71 v_ w_ nn h85 n0 z85 hnn g72 I85) hZ (hw _ (List.mem_of_getElem? (i := 16) rfl)) (hw _ (List.mem_of_getElem? (i := 15) rfl)) (by decide) (by decide)) (g := (mkF mt 98 #[.val (.int c_), .val (.int v_), .val (.int w_), .val (.int (Int32.ofNat nn)), .val (.ref b71), .unset] [(.int w_), (.int v_), (.int (8 : Int32)), (.int (Int32.ofNat nn)), (.ref b71)])) rfl (by rw [hml]; rfl) (argsL := [(.ref b71), (.int (Int32.ofNat nn)), (.int (8 : Int32)), (.int v_), (.int w_)]) (rest := []) (lenOf pd_4 rfl) rfl (by show 2 * 0 + _ ≤ _; exact Nat.le_of_eq rfl) (hb hby at_98) (fun _ _ => ⟨rfl, e85, (by decide : 2 + 1 ≤ _), (by decide : 10 + 16 ≤ _)⟩)
  dsimp only [Pt.U, Pt.locs, Pt.cells, Pt.slots] at X86 l86 y86 z86 st86 hQ86
  subst y86 z86
  replace X86 : Stand p l e _ s mt args below meth cd T86 L86 3 26 := X86
  obtain ⟨h86, e86⟩ : ∃ z, T86.heap = z := ⟨_, rfl⟩
  rw [e86] at hQ86
  obtain ⟨rfl, Nq86, z86, z9, hz9, I86⟩ := hQ86
  have N86 : Fr n0 L86 := by rw [l86]; exact Fr.app N85 Nq86
  rw [show min nn 9 = nn by omega] at hz9 I86
  obtain ⟨bb2, k2, vs2, gb2, nab2, E2, Fv2, Fs2, V2, hvl2, hI2⟩ := I86
  have hnt : (Int32.ofNat nn).toInt = nn := own_nat (by omega)
  refine Win.st ?_ st86
  show Win p e below _ T86 (mkF mt 101 #[.val (.int c_), .val (.int v_), .val (.int w_), .val (.int (Int32.ofNat nn)), .val (.ref b71), .unset] [])
  refine Win.st ?_ (fun tq kq => XS.aload X86.here hx rfl (hb hby at_101) rfl rfl kq)
  show Win p e below _ T86 (mkF mt 103 #[.val (.int c_), .val (.int v_), .val (.int w_), .val (.int (Int32.ofNat nn)), .val (.ref b71), .unset] [(.ref b71)])
  obtain ⟨cq87, kq87, q87a, q87b, q87c⟩ := isOf hZ e86 E2
  obtain ⟨v87, _, ⟨T87, L87, k87, n87⟩, -, X87, ⟨Lc87, hQ87, l87, y87, z87⟩, st87⟩ := X86.virtualBack hx (y := (⟨"com/example/kwerx/kwerx/index/IntList", "size", "()I"⟩ : MethodName)) (z := (⟨"com/example/kwerx/kwerx/index/IntList", "size", "()I"⟩ : MethodName)) hown (mvT hZ (hw _ (List.mem_of_getElem? (i := 17) rfl))) (mvT hZ (hw _ (List.mem_of_getElem? (i := 18) rfl))) (notFace_of_selects (args := #[]) (mvT hZ (hw _ (List.mem_of_getElem? (i := 20) rfl)))) (mvT hZ (hw _ (List.mem_of_getElem? (i := 20) rfl))) (mvT hZ (hw _ (List.mem_of_getElem? (i := 19) rfl))) (by decide) (backOf (W := 0) (rm_ilsize l Z a0 hw [] b71 (Int32.ofNat nn) h86 n0 z86 Fs2) hZ (hw _ (List.mem_of_getElem? (i := 21) rfl)) (hw _ (List.mem_of_getElem? (i := 3) rfl)) (by decide) (by decide)) q87a q87c (g := (mkF mt 103 #[.val (.int c_), .val (.int v_), .val (.int w_), .val (.int (Int32.ofNat nn)), .val (.ref b71), .unset] [(.ref b71)])) rfl (by rw [hml]; rfl) (Steps.refl _) (argsL := []) (rest := []) (lenOf pd_5 rfl) rfl (by show 2 * 0 + _ ≤ _; exact Nat.le_of_eq rfl) (hb hby at_103) (fun _ _ => ⟨rfl, e86, (by decide : 3 + 0 ≤ _), (by decide : 26 + 0 ≤ _)⟩)
  dsimp only [Pt.U, Pt.locs, Pt.cells, Pt.slots] at X87 l87 y87 z87 st87 hQ87
  subst y87 z87
  replace X87 : Stand p l e _ s mt args below meth cd T87 L87 3 26 := X87
  obtain ⟨h87, e87⟩ : ∃ z, T87.heap = z := ⟨_, rfl⟩
  rw [e87] at hQ87
  obtain ⟨rfl, Nq87, eh87⟩ := hQ87
  have N87 : Fr n0 L87 := by rw [l87]; exact Fr.app N86 Nq87
  rw [eh87] at e87
  refine Win.tr ?_ st87
  show Win p e below _ T87 (mkF mt 106 #[.val (.int c_), .val (.int v_), .val (.int w_), .val (.int (Int32.ofNat nn)), .val (.ref b71), .unset] [(.int (Int32.ofNat nn))])
  refine Win.st ?_ (fun tq kq => XS.iloadN X87.here hx rfl (hb hby at_106) rfl kq)
  show Win p e below _ T87 (mkF mt 107 #[.val (.int c_), .val (.int v_), .val (.int w_), .val (.int (Int32.ofNat nn)), .val (.ref b71), .unset] [(.int (Int32.ofNat nn)), (.int (Int32.ofNat nn))])
  refine Win.st ?_ (fun tq kq => XS.icmpYes X87.here hx rfl (pc0 := 107) (pc' := 112) rfl (hb hby at_107) rfl (teq (rfl : (Int32.ofNat nn) = (Int32.ofNat nn))).1 (by decide) (by decide) kq)
  show Win p e below _ T87 (mkF mt 112 #[.val (.int c_), .val (.int v_), .val (.int w_), .val (.int (Int32.ofNat nn)), .val (.ref b71), .unset] [])
  refine Win.st ?_ (fun tq kq => XS.iloadN X87.here hx rfl (hb hby at_112) rfl kq)
  show Win p e below _ T87 (mkF mt 113 #[.val (.int c_), .val (.int v_), .val (.int w_), .val (.int (Int32.ofNat nn)), .val (.ref b71), .unset] [(.int (Int32.ofNat nn))])
  by_cases hc113 : (Int32.ofNat nn) = (0 : Int32)
  · refine Win.st ?_ (fun tq kq => XS.ifNo X87.here hx rfl (hb hby at_113) rfl ((if0 _ _).trans (teq hc113).2) kq)
    show Win p e below _ T87 (mkF mt 116 #[.val (.int c_), .val (.int v_), .val (.int w_), .val (.int (Int32.ofNat nn)), .val (.ref b71), .unset] [])
    refine Win.st ?_ (fun tq kq => XS.iconst X87.here hx rfl (hb hby at_116) kq)
    show Win p e below _ T87 (mkF mt 117 #[.val (.int c_), .val (.int v_), .val (.int w_), .val (.int (Int32.ofNat nn)), .val (.ref b71), .unset] [(.int (1 : Int32))])
    exact Win.retN X87 hx hlk e87 (t := .boolean) (z' := (1 : Int32)) hrt (by simp) (hb hby at_117) (by decide) (by decide) rfl ⟨rfl, N87⟩
  · refine Win.st ?_ (fun tq kq => XS.ifYes X87.here hx rfl (pc0 := 113) (pc' := 118) rfl (hb hby at_113) rfl ((if0 _ _).trans (feq hc113).2) (by decide) (by decide) kq)
    show Win p e below _ T87 (mkF mt 118 #[.val (.int c_), .val (.int v_), .val (.int w_), .val (.int (Int32.ofNat nn)), .val (.ref b71), .unset] [])
    refine Win.st ?_ (fun tq kq => XS.aload X87.here hx rfl (hb hby at_118) rfl rfl kq)
    show Win p e below _ T87 (mkF mt 120 #[.val (.int c_), .val (.int v_), .val (.int w_), .val (.int (Int32.ofNat nn)), .val (.ref b71), .unset] [(.ref b71)])
    refine Win.st ?_ (fun tq kq => XS.iconst X87.here hx rfl (hb hby at_120) kq)
    show Win p e below _ T87 (mkF mt 121 #[.val (.int c_), .val (.int v_), .val (.int w_), .val (.int (Int32.ofNat nn)), .val (.ref b71), .unset] [(.int (0 : Int32)), (.ref b71)])
    have hj121 : 0 ≤ ((0 : Int32)).toInt ∧ ((0 : Int32)).toInt < nn := by
      have q0 : nn ≠ 0 := fun q => hc113 (by rw [q]; rfl)
      rw [own_i0]; omega
    have hk121 := own_clamp hj121.1
    obtain ⟨cq88, kq88, q88a, q88b, q88c⟩ := isOf hZ e87 E2
    obtain ⟨v88, _, ⟨T88, L88, k88, n88⟩, -, X88, ⟨Lc88, hQ88, l88, y88, z88⟩, st88⟩ := X87.virtualBack hx (y := (⟨"com/example/kwerx/kwerx/index/IntList", "get", "(I)I"⟩ : MethodName)) (z := (⟨"com/example/kwerx/kwerx/index/IntList", "get", "(I)I"⟩ : MethodName)) hown (mvT hZ (hw _ (List.mem_of_getElem? (i := 29) rfl))) (mvT hZ (hw _ (List.mem_of_getElem? (i := 30) rfl))) (notFace_of_selects (args := #[]) (mvT hZ (hw _ (List.mem_of_getElem? (i := 32) rfl)))) (mvT hZ (hw _ (List.mem_of_getElem? (i := 32) rfl))) (mvT hZ (hw _ (List.mem_of_getElem? (i := 31) rfl))) (by decide) (backOf (W := 0) (rm_ilget l Z a0 hw [] b71 (0 : Int32) bb2 k2 z9 vs2 v_ h86 n0 z86 Fv2 V2 (own_nlt (by rw [own_i0]; exact hj121.1)) (own_lt (by omega)) ((hI2 _ (by omega)).trans (by rw [show (0 : Int32).toNatClampNeg = 0 from by decide]; simp))) hZ (hw _ (List.mem_of_getElem? (i := 33) rfl)) (hw _ (List.mem_of_getElem? (i := 3) rfl)) (by decide) (by decide)) q88a q88c (g := (mkF mt 121 #[.val (.int c_), .val (.int v_), .val (.int w_), .val (.int (Int32.ofNat nn)), .val (.ref b71), .unset] [(.int (0 : Int32)), (.ref b71)])) rfl (by rw [hml]; rfl) (Steps.refl _) (argsL := [(.int (0 : Int32))]) (rest := []) (lenOf pd_6 rfl) rfl (by show 2 * 0 + _ ≤ _; exact Nat.le_of_eq rfl) (hb hby at_121) (fun _ _ => ⟨rfl, e87, (by decide : 3 + 0 ≤ _), (by decide : 26 + 0 ≤ _)⟩)
    dsimp only [Pt.U, Pt.locs, Pt.cells, Pt.slots] at X88 l88 y88 z88 st88 hQ88
    subst y88 z88
    replace X88 : Stand p l e _ s mt args below meth cd T88 L88 3 26 := X88
    obtain ⟨h88, e88⟩ : ∃ z, T88.heap = z := ⟨_, rfl⟩
    rw [e88] at hQ88
    obtain ⟨rfl, Nq88, eh88⟩ := hQ88
    have N88 : Fr n0 L88 := by rw [l88]; exact Fr.app N87 Nq88
    rw [eh88] at e88
    refine Win.tr ?_ st88
    show Win p e below _ T88 (mkF mt 124 #[.val (.int c_), .val (.int v_), .val (.int w_), .val (.int (Int32.ofNat nn)), .val (.ref b71), .unset] [(.int v_)])
    refine Win.st ?_ (fun tq kq => XS.iloadN X88.here hx rfl (hb hby at_124) rfl kq)
    show Win p e below _ T88 (mkF mt 125 #[.val (.int c_), .val (.int v_), .val (.int w_), .val (.int (Int32.ofNat nn)), .val (.ref b71), .unset] [(.int v_), (.int v_)])
    refine Win.st ?_ (fun tq kq => XS.icmpYes X88.here hx rfl (pc0 := 125) (pc' := 130) rfl (hb hby at_125) rfl (teq (rfl : v_ = v_)).1 (by decide) (by decide) kq)
    show Win p e below _ T88 (mkF mt 130 #[.val (.int c_), .val (.int v_), .val (.int w_), .val (.int (Int32.ofNat nn)), .val (.ref b71), .unset] [])
    refine Win.st ?_ (fun tq kq => XS.iloadN X88.here hx rfl (hb hby at_130) rfl kq)
    show Win p e below _ T88 (mkF mt 131 #[.val (.int c_), .val (.int v_), .val (.int w_), .val (.int (Int32.ofNat nn)), .val (.ref b71), .unset] [(.int (Int32.ofNat nn))])
    refine Win.st ?_ (fun tq kq => XS.iconst X88.here hx rfl (hb hby at_131) kq)
    show Win p e below _ T88 (mkF mt 132 #[.val (.int c_), .val (.int v_), .val (.int w_), .val (.int (Int32.ofNat nn)), .val (.ref b71), .unset] [(.int (2 : Int32)), (.int (Int32.ofNat nn))])
    refine Win.st ?_ (fun tq kq => XS.idiv X88.here hx rfl (hb hby at_132) rfl (by decide) kq)
    show Win p e below _ T88 (mkF mt 133 #[.val (.int c_), .val (.int v_), .val (.int w_), .val (.int (Int32.ofNat nn)), .val (.ref b71), .unset] [(.int ((Int32.ofNat nn) / (2 : Int32)))])
    refine Win.st ?_ (fun tq kq => XS.istore X88.here hx rfl (hb hby at_133) rfl (l' := #[.val (.int c_), .val (.int v_), .val (.int w_), .val (.int (Int32.ofNat nn)), .val (.ref b71), .val (.int ((Int32.ofNat nn) / (2 : Int32)))]) rfl kq)
    show Win p e below _ T88 (mkF mt 135 #[.val (.int c_), .val (.int v_), .val (.int w_), .val (.int (Int32.ofNat nn)), .val (.ref b71), .val (.int ((Int32.ofNat nn) / (2 : Int32)))] [])
    refine Win.st ?_ (fun tq kq => XS.aload X88.here hx rfl (hb hby at_135) rfl rfl kq)
    show Win p e below _ T88 (mkF mt 137 #[.val (.int c_), .val (.int v_), .val (.int w_), .val (.int (Int32.ofNat nn)), .val (.ref b71), .val (.int ((Int32.ofNat nn) / (2 : Int32)))] [(.ref b71)])
    refine Win.st ?_ (fun tq kq => XS.iload X88.here hx rfl (hb hby at_137) rfl kq)
    show Win p e below _ T88 (mkF mt 139 #[.val (.int c_), .val (.int v_), .val (.int w_), .val (.int (Int32.ofNat nn)), .val (.ref b71), .val (.int ((Int32.ofNat nn) / (2 : Int32)))] [(.int ((Int32.ofNat nn) / (2 : Int32))), (.ref b71)])
    have hj139 : 0 ≤ (((Int32.ofNat nn) / (2 : Int32))).toInt ∧ (((Int32.ofNat nn) / (2 : Int32))).toInt < nn := by
      have q0 : nn ≠ 0 := fun q => hc113 (by rw [q]; rfl)
      have r := (c_idiv (Int32.ofNat nn) 2 2 (by decide) (by decide)).1 (by omega)
      omega
    have hk139 := own_clamp hj139.1
    obtain ⟨cq89, kq89, q89a, q89b, q89c⟩ := isOf hZ e88 E2
    obtain ⟨v89, _, ⟨T89, L89, k89, n89⟩, -, X89, ⟨Lc89, hQ89, l89, y89, z89⟩, st89⟩ := X88.virtualBack hx (y := (⟨"com/example/kwerx/kwerx/index/IntList", "get", "(I)I"⟩ : MethodName)) (z := (⟨"com/example/kwerx/kwerx/index/IntList", "get", "(I)I"⟩ : MethodName)) hown (mvT hZ (hw _ (List.mem_of_getElem? (i := 29) rfl))) (mvT hZ (hw _ (List.mem_of_getElem? (i := 30) rfl))) (notFace_of_selects (args := #[]) (mvT hZ (hw _ (List.mem_of_getElem? (i := 32) rfl)))) (mvT hZ (hw _ (List.mem_of_getElem? (i := 32) rfl))) (mvT hZ (hw _ (List.mem_of_getElem? (i := 31) rfl))) (by decide) (backOf (W := 0) (rm_ilget l Z a0 hw [] b71 ((Int32.ofNat nn) / (2 : Int32)) bb2 k2 z9 vs2 (v_ + (((Int32.ofNat nn) / (2 : Int32)) * w_)) h86 n0 z86 Fv2 V2 (own_nlt (by rw [own_i0]; exact hj139.1)) (own_lt (by omega)) ((hI2 _ (by omega)).trans (by rw [own_back hj139.1]))) hZ (hw _ (List.mem_of_getElem? (i := 33) rfl)) (hw _ (List.mem_of_getElem? (i := 3) rfl)) (by decide) (by decide)) q89a q89c (g := (mkF mt 139 #[.val (.int c_), .val (.int v_), .val (.int w_), .val (.int (Int32.ofNat nn)), .val (.ref b71), .val (.int ((Int32.ofNat nn) / (2 : Int32)))] [(.int ((Int32.ofNat nn) / (2 : Int32))), (.ref b71)])) rfl (by rw [hml]; rfl) (Steps.refl _) (argsL := [(.int ((Int32.ofNat nn) / (2 : Int32)))]) (rest := []) (lenOf pd_6 rfl) rfl (by show 2 * 0 + _ ≤ _; exact Nat.le_of_eq rfl) (hb hby at_139) (fun _ _ => ⟨rfl, e88, (by decide : 3 + 0 ≤ _), (by decide : 26 + 0 ≤ _)⟩)
    dsimp only [Pt.U, Pt.locs, Pt.cells, Pt.slots] at X89 l89 y89 z89 st89 hQ89
    subst y89 z89
    replace X89 : Stand p l e _ s mt args below meth cd T89 L89 3 26 := X89
    obtain ⟨h89, e89⟩ : ∃ z, T89.heap = z := ⟨_, rfl⟩
    rw [e89] at hQ89
    obtain ⟨rfl, Nq89, eh89⟩ := hQ89
    have N89 : Fr n0 L89 := by rw [l89]; exact Fr.app N88 Nq89
    rw [eh89] at e89
    refine Win.tr ?_ st89
    show Win p e below _ T89 (mkF mt 142 #[.val (.int c_), .val (.int v_), .val (.int w_), .val (.int (Int32.ofNat nn)), .val (.ref b71), .val (.int ((Int32.ofNat nn) / (2 : Int32)))] [(.int (v_ + (((Int32.ofNat nn) / (2 : Int32)) * w_)))])
    refine Win.st ?_ (fun tq kq => XS.iloadN X89.here hx rfl (hb hby at_142) rfl kq)
    show Win p e below _ T89 (mkF mt 143 #[.val (.int c_), .val (.int v_), .val (.int w_), .val (.int (Int32.ofNat nn)), .val (.ref b71), .val (.int ((Int32.ofNat nn) / (2 : Int32)))] [(.int v_), (.int (v_ + (((Int32.ofNat nn) / (2 : Int32)) * w_)))])
    refine Win.st ?_ (fun tq kq => XS.iload X89.here hx rfl (hb hby at_143) rfl kq)
    show Win p e below _ T89 (mkF mt 145 #[.val (.int c_), .val (.int v_), .val (.int w_), .val (.int (Int32.ofNat nn)), .val (.ref b71), .val (.int ((Int32.ofNat nn) / (2 : Int32)))] [(.int ((Int32.ofNat nn) / (2 : Int32))), (.int v_), (.int (v_ + (((Int32.ofNat nn) / (2 : Int32)) * w_)))])
    refine Win.st ?_ (fun tq kq => XS.iloadN X89.here hx rfl (hb hby at_145) rfl kq)
    show Win p e below _ T89 (mkF mt 146 #[.val (.int c_), .val (.int v_), .val (.int w_), .val (.int (Int32.ofNat nn)), .val (.ref b71), .val (.int ((Int32.ofNat nn) / (2 : Int32)))] [(.int w_), (.int ((Int32.ofNat nn) / (2 : Int32))), (.int v_), (.int (v_ + (((Int32.ofNat nn) / (2 : Int32)) * w_)))])
    refine Win.st ?_ (fun tq kq => XS.imul X89.here hx rfl (hb hby at_146) rfl kq)
    show Win p e below _ T89 (mkF mt 147 #[.val (.int c_), .val (.int v_), .val (.int w_), .val (.int (Int32.ofNat nn)), .val (.ref b71), .val (.int ((Int32.ofNat nn) / (2 : Int32)))] [(.int (((Int32.ofNat nn) / (2 : Int32)) * w_)), (.int v_), (.int (v_ + (((Int32.ofNat nn) / (2 : Int32)) * w_)))])
    refine Win.st ?_ (fun tq kq => XS.iadd X89.here hx rfl (hb hby at_147) rfl kq)
    show Win p e below _ T89 (mkF mt 148 #[.val (.int c_), .val (.int v_), .val (.int w_), .val (.int (Int32.ofNat nn)), .val (.ref b71), .val (.int ((Int32.ofNat nn) / (2 : Int32)))] [(.int (v_ + (((Int32.ofNat nn) / (2 : Int32)) * w_))), (.int (v_ + (((Int32.ofNat nn) / (2 : Int32)) * w_)))])
    refine Win.st ?_ (fun tq kq => XS.icmpYes X89.here hx rfl (pc0 := 148) (pc' := 153) rfl (hb hby at_148) rfl (teq (rfl : (v_ + (((Int32.ofNat nn) / (2 : Int32)) * w_)) = (v_ + (((Int32.ofNat nn) / (2 : Int32)) * w_)))).1 (by decide) (by decide) kq)
    show Win p e below _ T89 (mkF mt 153 #[.val (.int c_), .val (.int v_), .val (.int w_), .val (.int (Int32.ofNat nn)), .val (.ref b71), .val (.int ((Int32.ofNat nn) / (2 : Int32)))] [])
    refine Win.st ?_ (fun tq kq => XS.iloadN X89.here hx rfl (hb hby at_153) rfl kq)
    show Win p e below _ T89 (mkF mt 154 #[.val (.int c_), .val (.int v_), .val (.int w_), .val (.int (Int32.ofNat nn)), .val (.ref b71), .val (.int ((Int32.ofNat nn) / (2 : Int32)))] [(.int (Int32.ofNat nn))])
    refine Win.st ?_ (fun tq kq => XS.iconst X89.here hx rfl (hb hby at_154) kq)
    show Win p e below _ T89 (mkF mt 155 #[.val (.int c_), .val (.int v_), .val (.int w_), .val (.int (Int32.ofNat nn)), .val (.ref b71), .val (.int ((Int32.ofNat nn) / (2 : Int32)))] [(.int (2 : Int32)), (.int (Int32.ofNat nn))])
    have jx : ∀ (T90 : State) (L90 : List Loc), Stand p l e room_1 s mt args below meth cd T90 L90 3 26 → T90.heap = h86 → Fr n0 L90 → Win p e below (Ends s (Q_law Z c_ v_ w_ h0 n0) 3 26) T90 (mkF mt 178 #[.val (.int c_), .val (.int v_), .val (.int w_), .val (.int (Int32.ofNat nn)), .val (.ref b71), .val (.int ((Int32.ofNat nn) / (2 : Int32)))] []) := by
      intro T90 L90 X90 e90 N90
      refine Win.st ?_ (fun tq kq => XS.aload X90.here hx rfl (hb hby at_178) rfl rfl kq)
      show Win p e below _ T90 (mkF mt 180 #[.val (.int c_), .val (.int v_), .val (.int w_), .val (.int (Int32.ofNat nn)), .val (.ref b71), .val (.int ((Int32.ofNat nn) / (2 : Int32)))] [(.ref b71)])
      refine Win.st ?_ (fun tq kq => XS.iloadN X90.here hx rfl (hb hby at_180) rfl kq)
      show Win p e below _ T90 (mkF mt 181 #[.val (.int c_), .val (.int v_), .val (.int w_), .val (.int (Int32.ofNat nn)), .val (.ref b71), .val (.int ((Int32.ofNat nn) / (2 : Int32)))] [(.int (Int32.ofNat nn)), (.ref b71)])
      refine Win.st ?_ (fun tq kq => XS.iconst X90.here hx rfl (hb hby at_181) kq)
      show Win p e below _ T90 (mkF mt 182 #[.val (.int c_), .val (.int v_), .val (.int w_), .val (.int (Int32.ofNat nn)), .val (.ref b71), .val (.int ((Int32.ofNat nn) / (2 : Int32)))] [(.int (1 : Int32)), (.int (Int32.ofNat nn)), (.ref b71)])
      refine Win.st ?_ (fun tq kq => XS.isub X90.here hx rfl (hb hby at_182) rfl kq)
      show Win p e below _ T90 (mkF mt 183 #[.val (.int c_), .val (.int v_), .val (.int w_), .val (.int (Int32.ofNat nn)), .val (.ref b71), .val (.int ((Int32.ofNat nn) / (2 : Int32)))] [(.int ((Int32.ofNat nn) - (1 : Int32))), (.ref b71)])
      have hj183 : 0 ≤ (((Int32.ofNat nn) - (1 : Int32))).toInt ∧ (((Int32.ofNat nn) - (1 : Int32))).toInt < nn := by
        have q0 : nn ≠ 0 := fun q => hc113 (by rw [q]; rfl)
        have r := c_isub (Int32.ofNat nn) 1
        have r2 := rng32 (Int32.ofNat nn - 1)
        have q2 := own_i1
        omega
      have hk183 := own_clamp hj183.1
      obtain ⟨cq91, kq91, q91a, q91b, q91c⟩ := isOf hZ e90 E2
      obtain ⟨v91, _, ⟨T91, L91, k91, n91⟩, -, X91, ⟨Lc91, hQ91, l91, y91, z91⟩, st91⟩ := X90.virtualBack hx (y := (⟨"com/example/kwerx/kwerx/index/IntList", "get", "(I)I"⟩ : MethodName)) (z := (⟨"com/example/kwerx/kwerx/index/IntList", "get", "(I)I"⟩ : MethodName)) hown (mvT hZ (hw _ (List.mem_of_getElem? (i := 29) rfl))) (mvT hZ (hw _ (List.mem_of_getElem? (i := 30) rfl))) (notFace_of_selects (args := #[]) (mvT hZ (hw _ (List.mem_of_getElem? (i := 32) rfl)))) (mvT hZ (hw _ (List.mem_of_getElem? (i := 32) rfl))) (mvT hZ (hw _ (List.mem_of_getElem? (i := 31) rfl))) (by decide) (backOf (W := 0) (rm_ilget l Z a0 hw [] b71 ((Int32.ofNat nn) - (1 : Int32)) bb2 k2 z9 vs2 (v_ + (((Int32.ofNat nn) - (1 : Int32)) * w_)) h86 n0 z86 Fv2 V2 (own_nlt (by rw [own_i0]; exact hj183.1)) (own_lt (by omega)) ((hI2 _ (by omega)).trans (by rw [own_back hj183.1]))) hZ (hw _ (List.mem_of_getElem? (i := 33) rfl)) (hw _ (List.mem_of_getElem? (i := 3) rfl)) (by decide) (by decide)) q91a q91c (g := (mkF mt 183 #[.val (.int c_), .val (.int v_), .val (.int w_), .val (.int (Int32.ofNat nn)), .val (.ref b71), .val (.int ((Int32.ofNat nn) / (2 : Int32)))] [(.int ((Int32.ofNat nn) - (1 : Int32))), (.ref b71)])) rfl (by rw [hml]; rfl) (Steps.refl _) (argsL := [(.int ((Int32.ofNat nn) - (1 : Int32)))]) (rest := []) (lenOf pd_6 rfl) rfl (by show 2 * 0 + _ ≤ _; exact Nat.le_of_eq rfl) (hb hby at_183) (fun _ _ => ⟨rfl, e90, (by decide : 3 + 0 ≤ _), (by decide : 26 + 0 ≤ _)⟩)
      dsimp only [Pt.U, Pt.locs, Pt.cells, Pt.slots] at X91 l91 y91 z91 st91 hQ91
      subst y91 z91
      replace X91 : Stand p l e _ s mt args below meth cd T91 L91 3 26 := X91
      obtain ⟨h91, e91⟩ : ∃ z, T91.heap = z := ⟨_, rfl⟩
      rw [e91] at hQ91
      obtain ⟨rfl, Nq91, eh91⟩ := hQ91
      have N91 : Fr n0 L91 := by rw [l91]; exact Fr.app N90 Nq91
      rw [eh91] at e91
      refine Win.tr ?_ st91
      show Win p e below _ T91 (mkF mt 186 #[.val (.int c_), .val (.int v_), .val (.int w_), .val (.int (Int32.ofNat nn)), .val (.ref b71), .val (.int ((Int32.ofNat nn) / (2 : Int32)))] [(.int (v_ + (((Int32.ofNat nn) - (1 : Int32)) * w_)))])
      refine Win.st ?_ (fun tq kq => XS.iloadN X91.here hx rfl (hb hby at_186) rfl kq)
      show Win p e below _ T91 (mkF mt 187 #[.val (.int c_), .val (.int v_), .val (.int w_), .val (.int (Int32.ofNat nn)), .val (.ref b71), .val (.int ((Int32.ofNat nn) / (2 : Int32)))] [(.int v_), (.int (v_ + (((Int32.ofNat nn) - (1 : Int32)) * w_)))])
      refine Win.st ?_ (fun tq kq => XS.iloadN X91.here hx rfl (hb hby at_187) rfl kq)
      show Win p e below _ T91 (mkF mt 188 #[.val (.int c_), .val (.int v_), .val (.int w_), .val (.int (Int32.ofNat nn)), .val (.ref b71), .val (.int ((Int32.ofNat nn) / (2 : Int32)))] [(.int (Int32.ofNat nn)), (.int v_), (.int (v_ + (((Int32.ofNat nn) - (1 : Int32)) * w_)))])
      refine Win.st ?_ (fun tq kq => XS.iconst X91.here hx rfl (hb hby at_188) kq)
      show Win p e below _ T91 (mkF mt 189 #[.val (.int c_), .val (.int v_), .val (.int w_), .val (.int (Int32.ofNat nn)), .val (.ref b71), .val (.int ((Int32.ofNat nn) / (2 : Int32)))] [(.int (1 : Int32)), (.int (Int32.ofNat nn)), (.int v_), (.int (v_ + (((Int32.ofNat nn) - (1 : Int32)) * w_)))])
      refine Win.st ?_ (fun tq kq => XS.isub X91.here hx rfl (hb hby at_189) rfl kq)
      show Win p e below _ T91 (mkF mt 190 #[.val (.int c_), .val (.int v_), .val (.int w_), .val (.int (Int32.ofNat nn)), .val (.ref b71), .val (.int ((Int32.ofNat nn) / (2 : Int32)))] [(.int ((Int32.ofNat nn) - (1 : Int32))), (.int v_), (.int (v_ + (((Int32.ofNat nn) - (1 : Int32)) * w_)))])
      refine Win.st ?_ (fun tq kq => XS.iloadN X91.here hx rfl (hb hby at_190) rfl kq)
      show Win p e below _ T91 (mkF mt 191 #[.val (.int c_), .val (.int v_), .val (.int w_), .val (.int (Int32.ofNat nn)), .val (.ref b71), .val (.int ((Int32.ofNat nn) / (2 : Int32)))] [(.int w_), (.int ((Int32.ofNat nn) - (1 : Int32))), (.int v_), (.int (v_ + (((Int32.ofNat nn) - (1 : Int32)) * w_)))])
      refine Win.st ?_ (fun tq kq => XS.imul X91.here hx rfl (hb hby at_191) rfl kq)
      show Win p e below _ T91 (mkF mt 192 #[.val (.int c_), .val (.int v_), .val (.int w_), .val (.int (Int32.ofNat nn)), .val (.ref b71), .val (.int ((Int32.ofNat nn) / (2 : Int32)))] [(.int (((Int32.ofNat nn) - (1 : Int32)) * w_)), (.int v_), (.int (v_ + (((Int32.ofNat nn) - (1 : Int32)) * w_)))])
      refine Win.st ?_ (fun tq kq => XS.iadd X91.here hx rfl (hb hby at_192) rfl kq)
      show Win p e below _ T91 (mkF mt 193 #[.val (.int c_), .val (.int v_), .val (.int w_), .val (.int (Int32.ofNat nn)), .val (.ref b71), .val (.int ((Int32.ofNat nn) / (2 : Int32)))] [(.int (v_ + (((Int32.ofNat nn) - (1 : Int32)) * w_))), (.int (v_ + (((Int32.ofNat nn) - (1 : Int32)) * w_)))])
      refine Win.st ?_ (fun tq kq => XS.icmpNo X91.here hx rfl (hb hby at_193) rfl (teq (rfl : (v_ + (((Int32.ofNat nn) - (1 : Int32)) * w_)) = (v_ + (((Int32.ofNat nn) - (1 : Int32)) * w_)))).2 kq)
      show Win p e below _ T91 (mkF mt 196 #[.val (.int c_), .val (.int v_), .val (.int w_), .val (.int (Int32.ofNat nn)), .val (.ref b71), .val (.int ((Int32.ofNat nn) / (2 : Int32)))] [])
      refine Win.st ?_ (fun tq kq => XS.iconst X91.here hx rfl (hb hby at_196) kq)
      show Win p e below _ T91 (mkF mt 197 #[.val (.int c_), .val (.int v_), .val (.int w_), .val (.int (Int32.ofNat nn)), .val (.ref b71), .val (.int ((Int32.ofNat nn) / (2 : Int32)))] [(.int (1 : Int32))])
      refine Win.st ?_ (fun tq kq => XS.goto X91.here hx rfl (pc0 := 197) (pc' := 201) rfl (hb hby at_197) (by decide) (by decide) kq)
      show Win p e below _ T91 (mkF mt 201 #[.val (.int c_), .val (.int v_), .val (.int w_), .val (.int (Int32.ofNat nn)), .val (.ref b71), .val (.int ((Int32.ofNat nn) / (2 : Int32)))] [(.int (1 : Int32))])
      exact Win.retN X91 hx hlk e91 (t := .boolean) (z' := (1 : Int32)) hrt (by simp) (hb hby at_201) (by decide) (by decide) rfl ⟨rfl, N91⟩
    by_cases hc155 : (Int32.ofNat nn) < (2 : Int32)
    · refine Win.st ?_ (fun tq kq => XS.icmpYes X89.here hx rfl (pc0 := 155) (pc' := 178) rfl (hb hby at_155) rfl (tlt hc155).1 (by decide) (by decide) kq)
      show Win p e below _ T89 (mkF mt 178 #[.val (.int c_), .val (.int v_), .val (.int w_), .val (.int (Int32.ofNat nn)), .val (.ref b71), .val (.int ((Int32.ofNat nn) / (2 : Int32)))] [])
      exact jx T89 _ X89 e89 N89
    · refine Win.st ?_ (fun tq kq => XS.icmpNo X89.here hx rfl (hb hby at_155) rfl (flt hc155).1 kq)
      show Win p e below _ T89 (mkF mt 158 #[.val (.int c_), .val (.int v_), .val (.int w_), .val (.int (Int32.ofNat nn)), .val (.ref b71), .val (.int ((Int32.ofNat nn) / (2 : Int32)))] [])
      refine Win.st ?_ (fun tq kq => XS.aload X89.here hx rfl (hb hby at_158) rfl rfl kq)
      show Win p e below _ T89 (mkF mt 160 #[.val (.int c_), .val (.int v_), .val (.int w_), .val (.int (Int32.ofNat nn)), .val (.ref b71), .val (.int ((Int32.ofNat nn) / (2 : Int32)))] [(.ref b71)])
      refine Win.st ?_ (fun tq kq => XS.iloadN X89.here hx rfl (hb hby at_160) rfl kq)
      show Win p e below _ T89 (mkF mt 161 #[.val (.int c_), .val (.int v_), .val (.int w_), .val (.int (Int32.ofNat nn)), .val (.ref b71), .val (.int ((Int32.ofNat nn) / (2 : Int32)))] [(.int (Int32.ofNat nn)), (.ref b71)])
      refine Win.st ?_ (fun tq kq => XS.iconst X89.here hx rfl (hb hby at_161) kq)
      show Win p e below _ T89 (mkF mt 162 #[.val (.int c_), .val (.int v_), .val (.int w_), .val (.int (Int32.ofNat nn)), .val (.ref b71), .val (.int ((Int32.ofNat nn) / (2 : Int32)))] [(.int (2 : Int32)), (.int (Int32.ofNat nn)), (.ref b71)])
      refine Win.st ?_ (fun tq kq => XS.isub X89.here hx rfl (hb hby at_162) rfl kq)
      show Win p e below _ T89 (mkF mt 163 #[.val (.int c_), .val (.int v_), .val (.int w_), .val (.int (Int32.ofNat nn)), .val (.ref b71), .val (.int ((Int32.ofNat nn) / (2 : Int32)))] [(.int ((Int32.ofNat nn) - (2 : Int32))), (.ref b71)])
      have hj163 : 0 ≤ (((Int32.ofNat nn) - (2 : Int32))).toInt ∧ (((Int32.ofNat nn) - (2 : Int32))).toInt < nn := by
        have q0 : nn ≠ 0 := fun q => hc113 (by rw [q]; rfl)
        have r := c_isub (Int32.ofNat nn) 2
        have r2 := rng32 (Int32.ofNat nn - 2)
        have q2 := own_i2
        have q3 := own_of_nlt hc155
        omega
      have hk163 := own_clamp hj163.1
      obtain ⟨cq92, kq92, q92a, q92b, q92c⟩ := isOf hZ e89 E2
      obtain ⟨v92, _, ⟨T92, L92, k92, n92⟩, -, X92, ⟨Lc92, hQ92, l92, y92, z92⟩, st92⟩ := X89.virtualBack hx (y := (⟨"com/example/kwerx/kwerx/index/IntList", "get", "(I)I"⟩ : MethodName)) (z := (⟨"com/example/kwerx/kwerx/index/IntList", "get", "(I)I"⟩ : MethodName)) hown (mvT hZ (hw _ (List.mem_of_getElem? (i := 29) rfl))) (mvT hZ (hw _ (List.mem_of_getElem? (i := 30) rfl))) (notFace_of_selects (args := #[]) (mvT hZ (hw _ (List.mem_of_getElem? (i := 32) rfl)))) (mvT hZ (hw _ (List.mem_of_getElem? (i := 32) rfl))) (mvT hZ (hw _ (List.mem_of_getElem? (i := 31) rfl))) (by decide) (backOf (W := 0) (rm_ilget l Z a0 hw [] b71 ((Int32.ofNat nn) - (2 : Int32)) bb2 k2 z9 vs2 (v_ + (((Int32.ofNat nn) - (2 : Int32)) * w_)) h86 n0 z86 Fv2 V2 (own_nlt (by rw [own_i0]; exact hj163.1)) (own_lt (by omega)) ((hI2 _ (by omega)).trans (by rw [own_back hj163.1]))) hZ (hw _ (List.mem_of_getElem? (i := 33) rfl)) (hw _ (List.mem_of_getElem? (i := 3) rfl)) (by decide) (by decide)) q92a q92c (g := (mkF mt 163 #[.val (.int c_), .val (.int v_), .val (.int w_), .val (.int (Int32.ofNat nn)), .val (.ref b71), .val (.int ((Int32.ofNat nn) / (2 : Int32)))] [(.int ((Int32.ofNat nn) - (2 : Int32))), (.ref b71)])) rfl (by rw [hml]; rfl) (Steps.refl _) (argsL := [(.int ((Int32.ofNat nn) - (2 : Int32)))]) (rest := []) (lenOf pd_6 rfl) rfl (by show 2 * 0 + _ ≤ _; exact Nat.le_of_eq rfl) (hb hby at_163) (fun _ _ => ⟨rfl, e89, (by decide : 3 + 0 ≤ _), (by decide : 26 + 0 ≤ _)⟩)
      dsimp only [Pt.U, Pt.locs, Pt.cells, Pt.slots] at X92 l92 y92 z92 st92 hQ92
      subst y92 z92
      replace X92 : Stand p l e _ s mt args below meth cd T92 L92 3 26 := X92
      obtain ⟨h92, e92⟩ : ∃ z, T92.heap = z := ⟨_, rfl⟩
      rw [e92] at hQ92
      obtain ⟨rfl, Nq92, eh92⟩ := hQ92
      have N92 : Fr n0 L92 := by rw [l92]; exact Fr.app N89 Nq92
      rw [eh92] at e92
      refine Win.tr ?_ st92
      show Win p e below _ T92 (mkF mt 166 #[.val (.int c_), .val (.int v_), .val (.int w_), .val (.int (Int32.ofNat nn)), .val (.ref b71), .val (.int ((Int32.ofNat nn) / (2 : Int32)))] [(.int (v_ + (((Int32.ofNat nn) - (2 : Int32)) * w_)))])
      refine Win.st ?_ (fun tq kq => XS.iloadN X92.here hx rfl (hb hby at_166) rfl kq)
      show Win p e below _ T92 (mkF mt 167 #[.val (.int c_), .val (.int v_), .val (.int w_), .val (.int (Int32.ofNat nn)), .val (.ref b71), .val (.int ((Int32.ofNat nn) / (2 : Int32)))] [(.int v_), (.int (v_ + (((Int32.ofNat nn) - (2 : Int32)) * w_)))])
      refine Win.st ?_ (fun tq kq => XS.iloadN X92.here hx rfl (hb hby at_167) rfl kq)
      show Win p e below _ T92 (mkF mt 168 #[.val (.int c_), .val (.int v_), .val (.int w_), .val (.int (Int32.ofNat nn)), .val (.ref b71), .val (.int ((Int32.ofNat nn) / (2 : Int32)))] [(.int (Int32.ofNat nn)), (.int v_), (.int (v_ + (((Int32.ofNat nn) - (2 : Int32)) * w_)))])
      refine Win.st ?_ (fun tq kq => XS.iconst X92.here hx rfl (hb hby at_168) kq)
      show Win p e below _ T92 (mkF mt 169 #[.val (.int c_), .val (.int v_), .val (.int w_), .val (.int (Int32.ofNat nn)), .val (.ref b71), .val (.int ((Int32.ofNat nn) / (2 : Int32)))] [(.int (2 : Int32)), (.int (Int32.ofNat nn)), (.int v_), (.int (v_ + (((Int32.ofNat nn) - (2 : Int32)) * w_)))])
      refine Win.st ?_ (fun tq kq => XS.isub X92.here hx rfl (hb hby at_169) rfl kq)
      show Win p e below _ T92 (mkF mt 170 #[.val (.int c_), .val (.int v_), .val (.int w_), .val (.int (Int32.ofNat nn)), .val (.ref b71), .val (.int ((Int32.ofNat nn) / (2 : Int32)))] [(.int ((Int32.ofNat nn) - (2 : Int32))), (.int v_), (.int (v_ + (((Int32.ofNat nn) - (2 : Int32)) * w_)))])
      refine Win.st ?_ (fun tq kq => XS.iloadN X92.here hx rfl (hb hby at_170) rfl kq)
      show Win p e below _ T92 (mkF mt 171 #[.val (.int c_), .val (.int v_), .val (.int w_), .val (.int (Int32.ofNat nn)), .val (.ref b71), .val (.int ((Int32.ofNat nn) / (2 : Int32)))] [(.int w_), (.int ((Int32.ofNat nn) - (2 : Int32))), (.int v_), (.int (v_ + (((Int32.ofNat nn) - (2 : Int32)) * w_)))])
      refine Win.st ?_ (fun tq kq => XS.imul X92.here hx rfl (hb hby at_171) rfl kq)
      show Win p e below _ T92 (mkF mt 172 #[.val (.int c_), .val (.int v_), .val (.int w_), .val (.int (Int32.ofNat nn)), .val (.ref b71), .val (.int ((Int32.ofNat nn) / (2 : Int32)))] [(.int (((Int32.ofNat nn) - (2 : Int32)) * w_)), (.int v_), (.int (v_ + (((Int32.ofNat nn) - (2 : Int32)) * w_)))])
      refine Win.st ?_ (fun tq kq => XS.iadd X92.here hx rfl (hb hby at_172) rfl kq)
      show Win p e below _ T92 (mkF mt 173 #[.val (.int c_), .val (.int v_), .val (.int w_), .val (.int (Int32.ofNat nn)), .val (.ref b71), .val (.int ((Int32.ofNat nn) / (2 : Int32)))] [(.int (v_ + (((Int32.ofNat nn) - (2 : Int32)) * w_))), (.int (v_ + (((Int32.ofNat nn) - (2 : Int32)) * w_)))])
      refine Win.st ?_ (fun tq kq => XS.icmpYes X92.here hx rfl (pc0 := 173) (pc' := 178) rfl (hb hby at_173) rfl (teq (rfl : (v_ + (((Int32.ofNat nn) - (2 : Int32)) * w_)) = (v_ + (((Int32.ofNat nn) - (2 : Int32)) * w_)))).1 (by decide) (by decide) kq)
      show Win p e below _ T92 (mkF mt 178 #[.val (.int c_), .val (.int v_), .val (.int w_), .val (.int (Int32.ofNat nn)), .val (.ref b71), .val (.int ((Int32.ofNat nn) / (2 : Int32)))] [])
      exact jx T92 _ X92 e92 N92
set_option maxRecDepth 65536 in
set_option maxHeartbeats 40000000 in
theorem comes_1 {Post : Tables → Env → Array Value → State → Outcome → State → Prop} (hpost : ∀ tb e args s v u, (limb_1_1.after args s (.returned v) u = true ∧ limb_1_2.after args s (.returned v) u = true ∧ True) → FrameEnd s (.returned v) u (Jvm.fieldLocs frame_1_writes args s ++ Jvm.arrayLocs frame_1_arrays args s ++ Jvm.staticLocs frame_1_statics s) 16 128 → Post tb e args s (.returned v) u) :
    ArmFor flags0 classFile x code maxLocals ret World_1 tables_1 room_1 Calls_1 rest_1 Pre_1 Post := by
  intro l hfl _ _ p e ha hc hk s m args below hf hA hF happ hP
  obtain ⟨hcalls, hrest, hpre⟩ := hP
  obtain ⟨-, -, -, hnamed, -, -, -, hat⟩ := (Spec.applies_iff hf).mp happ
  obtain ⟨hg, hn⟩ := and_e (Cond.before_iff.mp (show (Jvm.Cond.and given_1 narrow_1).before args s = true from hpre))
  obtain ⟨ga0, gb0⟩ := and_e hg
  obtain ⟨ga1, gb1⟩ := and_e gb0
  obtain ⟨ga2, gb2⟩ := and_e gb1
  obtain ⟨w0, w1, w2, rfl⟩ : ∃ w0 w1 w2 : Value, args = #[w0, w1, w2] := by
    have hs : args.size = 3 := by simpa [Cond.value, given_1] using ga0
    obtain ⟨L⟩ := args
    match L, hs with
    | [w0, w1, w2], _ => exact ⟨w0, w1, w2, rfl⟩
  have hw := fun d (hd : d ∈ tables_1) => atoms_spec (ws := Jvm.Cond.code x code maxLocals ret :: tables_1) hat d (List.mem_cons_of_mem _ hd)
  have hfit : Fit s := fun {y c} hc i hi => by
    obtain ⟨ha, rfl⟩ := Array.getElem?_eq_some_iff.mp hc
    have q := List.all_eq_true.mp ((Array.all_eq_true_iff_forall_mem.mp hF) _ (Array.getElem_mem ha)) i (List.mem_range.mpr hi)
    simpa [Array.getElem?_eq_getElem hi] using q
  obtain ⟨i0, ei0⟩ := is_v ga1
  obtain rfl : w0 = (.int i0) := Option.some.inj ei0
  obtain ⟨i1, ei1⟩ := is_v ga2
  obtain rfl : w1 = (.int i1) := Option.some.inj ei1
  obtain ⟨i2, ei2⟩ := is_v gb2
  obtain rfl : w2 = (.int i2) := Option.some.inj ei2
  obtain ⟨n, o, h1, h2, h3, _, L, rfl, ⟨rfl, N⟩, hq⟩ := rm_law l s _ hw tables_1 i0 i1 i2  s.heap s.heap.size (Nat.le_refl _)  p e ha hc hk s m _ below hf ((Spec.applies_iff_loose hf).mp happ).1 ⟨rfl, State.Warmed39.refl s, rfl⟩ trivial
  refine ⟨n, _, h1, h2, h3, hpost _ _ _ _ _ _ ⟨Cond.after_iff.mpr rfl, Cond.after_iff.mpr (eq_i res_at (Term.int_eval (1)) rfl), trivial⟩ ⟨hq.1, hq.2.1, (hq.2.2.sift fun y hy => Or.inr (N y hy)).mono (by decide) (by decide)⟩⟩
theorem main_1_1 : Claimed_1_1 := comes_1 fun _ _ _ _ _ _ h hF => ⟨h.1, hF⟩
theorem main_1_2 : Claimed_1_2 := comes_1 fun _ _ _ _ _ _ h hF => ⟨h.2.1, hF⟩
end Jvm.Pilot.@@N@@
namespace Jvm.Pilot.@@N@@
open Jvm Jvm.ClassFile Sem Op Lib Jvm.Free Jvm.Stand Jvm.Pilot.@@N@@.Jvm.D
/-! MADE BY PROGRAM (witnessworld.py) out of the Statement's table words and the real class files: 12 classes; the members and pool entries that the words name. The judged class is class 1, her method 2. -/
namespace start1
open Jvm.ClassFile
def u (s : String) : CpInfo := .utf8 (stringToUtf16 s)
/-- a pool by its gaps: so many unusable entries, then the entry; so many at the end -/
def gap : Nat → List CpInfo → List CpInfo
  | 0, r => r
  | n + 1, r => .unusable :: gap n r
def poolList (es : List (Nat × CpInfo)) (last : Nat) : List CpInfo := es.foldr (fun e r => gap e.1 (e.2 :: r)) (gap last [])
def pool (es : List (Nat × CpInfo)) (last : Nat) : Array CpInfo := ⟨poolList es last⟩
def fileOf (pool : Array CpInfo) (this : Nat) (attrs : Array Attribute := #[]) (ms : Array MethodInfo := #[]) (fl : Nat := 33) (sup : Nat := 0) (ifs : Array Nat := #[]) (fds : Array FieldInfo := #[]) : ClassFile where
  minorVersion := 0
  majorVersion := 65
  constantPool := pool
  accessFlags := fl
  thisClass := this
  superClass := sup
  interfaces := ifs
  fields := fds
  methods := ms
  attributes := attrs
def plain (name : String) (sup : Option ClassId) : Class where
  name := name
  kind := .ordinary
  loader := none
  accessFlags := 33
  super := sup
  interfaces := #[]
  cf := none
  fields := #[]
  methods := #[]
  instanceTypes := #[]
  staticTypes := #[]
  resolved := #[]
  callSites := []
  init := .initialized
  statics := none
  mirror := none

def pool0 : Array CpInfo := pool [(5, u "<init>"), (0, u "()V"), (1, .class_ 10), (1, u "java/lang/Object")] 113

def k0c0 : Code := { maxStack := 0, maxLocals := 1, code := object_method_1_code, exceptionTable := #[], attributes := #[] }
def k0m0 : Method := { name := "<init>", desc := "()V", sig := { parameters := [], returnType := none }, accessFlags := 1, code := some k0c0 }
/-- java/lang/Object -/
def k0 : Class := { plain "java/lang/Object" none with
  accessFlags := 33
  interfaces := #[]
  cf := some (fileOf pool0 8 #[] #[{ accessFlags := 1, nameIndex := 5, descriptorIndex := 6, attributes := #[] }] 33 0 #[] #[])
  fields := #[]
  methods := #[k0m0]
  instanceTypes := #[]
  staticTypes := #[]
  resolved := Array.replicate 124 none
  statics := none }

def pool1 : Array CpInfo := pool [(2, .class_ 4), (0, .nameAndType 5 6), (0, u "java/lang/Object"), (0, u "<init>"), (0, u "()V"), (0, .methodref 8 9), (0, .class_ 10), (0, .nameAndType 11 12), (0, u "com/example/kwerx/kwerx/index/IntList"), (0, u "add"), (0, u "(I)V"), (0, .integer 2147483647), (0, .methodref 8 3), (0, .methodref 16 17), (0, .class_ 18), (0, .nameAndType 19 20), (0, u "com/example/kwerx/kwerx/index/IntListAddPinLaw"), (0, u "step"), (0, u "(Lcom/example/kwerx/kwerx/index/IntList;IIII)V"), (0, .methodref 8 22), (0, .nameAndType 23 24), (0, u "size"), (0, u "()I"), (0, .methodref 8 26), (0, .nameAndType 27 28), (0, u "get"), (0, u "(I)I"), (3, u "law"), (0, u "(III)Z")] 2

def k1m0 : Method := { name := "<init>", desc := "()V", sig := { parameters := [], returnType := none }, accessFlags := 1, code := none }
def k1c1 : Code := { maxStack := 4, maxLocals := 5, code := method_2_code, exceptionTable := #[], attributes := #[] }
def k1m1 : Method := { name := "step", desc := "(Lcom/example/kwerx/kwerx/index/IntList;IIII)V", sig := { parameters := [(.object "com/example/kwerx/kwerx/index/IntList"), .int, .int, .int, .int], returnType := none }, accessFlags := 10, code := some k1c1 }
def k1c2 : Code := { maxStack := 5, maxLocals := 6, code := code, exceptionTable := #[], attributes := #[] }
def k1m2 : Method := { name := "law", desc := "(III)Z", sig := { parameters := [.int, .int, .int], returnType := some .boolean }, accessFlags := 9, code := some k1c2 }
/-- com/example/kwerx/kwerx/index/IntListAddPinLaw -/
def k1 : Class := { plain "com/example/kwerx/kwerx/index/IntListAddPinLaw" (some 0) with
  accessFlags := 49
  interfaces := #[]
  cf := some (fileOf pool1 16 #[] #[{ accessFlags := 1, nameIndex := 5, descriptorIndex := 6, attributes := #[] }, { accessFlags := 10, nameIndex := 19, descriptorIndex := 20, attributes := #[] }, { accessFlags := 9, nameIndex := 32, descriptorIndex := 33, attributes := #[] }] 49 2 #[] #[])
  fields := #[]
  methods := #[k1m0, k1m1, k1m2]
  instanceTypes := #[]
  staticTypes := #[]
  resolved := Array.replicate 36 none
  statics := none }

def pool2 : Array CpInfo := pool [(1, .methodref 2 3), (0, .class_ 4), (0, .nameAndType 5 6), (0, u "java/lang/Object"), (0, u "<init>"), (0, u "()V"), (0, .fieldref 8 9), (0, .class_ 10), (0, .nameAndType 11 12), (0, u "com/example/kwerx/kwerx/index/IntList"), (0, u "values"), (0, u "[I"), (0, .fieldref 8 14), (0, .nameAndType 15 16), (0, u "size"), (0, u "I"), (0, .methodref 18 19), (0, .class_ 20), (0, .nameAndType 21 22), (0, u "java/util/Arrays"), (0, u "copyOf"), (0, u "([II)[I"), (8, u "add"), (0, u "(I)V"), (1, u "get"), (0, u "(I)I"), (3, u "()I")] 2

def k2c0 : Code := { maxStack := 2, maxLocals := 1, code := prog_51_method_1_code, exceptionTable := #[], attributes := #[] }
def k2m0 : Method := { name := "<init>", desc := "()V", sig := { parameters := [], returnType := none }, accessFlags := 0, code := some k2c0 }
def k2c1 : Code := { maxStack := 5, maxLocals := 2, code := prog_51_method_2_code, exceptionTable := #[], attributes := #[] }
def k2m1 : Method := { name := "add", desc := "(I)V", sig := { parameters := [.int], returnType := none }, accessFlags := 0, code := some k2c1 }
def k2c2 : Code := { maxStack := 2, maxLocals := 2, code := prog_51_method_3_code, exceptionTable := #[], attributes := #[] }
def k2m2 : Method := { name := "get", desc := "(I)I", sig := { parameters := [.int], returnType := some .int }, accessFlags := 0, code := some k2c2 }
def k2c3 : Code := { maxStack := 1, maxLocals := 1, code := prog_51_method_6_code, exceptionTable := #[], attributes := #[] }
def k2m3 : Method := { name := "size", desc := "()I", sig := { parameters := [], returnType := some .int }, accessFlags := 0, code := some k2c3 }
/-- com/example/kwerx/kwerx/index/IntList -/
def k2 : Class := { plain "com/example/kwerx/kwerx/index/IntList" (some 0) with
  accessFlags := 32
  interfaces := #[]
  cf := some (fileOf pool2 8 #[] #[{ accessFlags := 0, nameIndex := 5, descriptorIndex := 6, attributes := #[] }, { accessFlags := 0, nameIndex := 31, descriptorIndex := 32, attributes := #[] }, { accessFlags := 0, nameIndex := 34, descriptorIndex := 35, attributes := #[] }, { accessFlags := 0, nameIndex := 15, descriptorIndex := 39, attributes := #[] }] 32 2 #[] #[{ accessFlags := 2, nameIndex := 11, descriptorIndex := 12, attributes := #[] }, { accessFlags := 2, nameIndex := 15, descriptorIndex := 16, attributes := #[] }])
  fields := #[{ name := "values", type := (.array .int), accessFlags := 2, slot := 0, constantValue := 0 }, { name := "size", type := .int, accessFlags := 2, slot := 1, constantValue := 0 }]
  methods := #[k2m0, k2m1, k2m2, k2m3]
  instanceTypes := #[(.array .int), .int]
  staticTypes := #[]
  resolved := Array.replicate 42 none
  statics := none }

def pool3 : Array CpInfo := pool [(2, .class_ 4), (1, u "java/lang/Object"), (0, u "<init>"), (0, u "()V"), (7, .class_ 16), (1, u "java/util/Arrays"), (57, .class_ 76), (1, u "java/util/Arrays$NaturalOrder"), (36, .class_ 115), (1, u "java/util/Arrays$LegacyMergeSort"), (1, u "Z"), (32, .methodref 151 152), (0, .class_ 153), (0, .nameAndType 154 155), (0, u "java/lang/System"), (0, u "arraycopy"), (0, u "(Ljava/lang/Object;ILjava/lang/Object;II)V"), (146, u "copyOf"), (1, .methodref 305 306), (0, .class_ 307), (0, .nameAndType 308 309), (0, u "java/lang/Math"), (0, u "min"), (0, u "(II)I"), (65, .class_ 376), (0, u "java/util/Arrays$ArrayList"), (68, u "$assertionsDisabled"), (269, u "MIN_ARRAY_SORT_GRAN"), (0, u "I"), (2, u "INSERTIONSORT_THRESHOLD"), (151, u "([II)[I"), (103, .class_ 976), (0, u "java/util/Arrays$ArrayItr")] 52

def k3m0 : Method := { name := "<init>", desc := "()V", sig := { parameters := [], returnType := none }, accessFlags := 2, code := none }
def k3c1 : Code := { maxStack := 6, maxLocals := 3, code := jdk_65_method_123_code, exceptionTable := #[], attributes := #[] }
def k3m1 : Method := { name := "copyOf", desc := "([II)[I", sig := { parameters := [(.array .int), .int], returnType := some (.array .int) }, accessFlags := 9, code := some k3c1 }
/-- java/util/Arrays -/
def k3 : Class := { plain "java/util/Arrays" (some 0) with
  accessFlags := 49
  interfaces := #[]
  cf := some (fileOf pool3 14 #[.nestMembers #[975, 375, 113, 74]] #[{ accessFlags := 2, nameIndex := 5, descriptorIndex := 6, attributes := #[] }, { accessFlags := 9, nameIndex := 302, descriptorIndex := 871, attributes := #[] }] 49 2 #[] #[{ accessFlags := 26, nameIndex := 715, descriptorIndex := 716, attributes := #[] }, { accessFlags := 26, nameIndex := 719, descriptorIndex := 716, attributes := #[] }, { accessFlags := 4120, nameIndex := 445, descriptorIndex := 117, attributes := #[] }])
  fields := #[{ name := "MIN_ARRAY_SORT_GRAN", type := .int, accessFlags := 26, slot := 0, constantValue := 0 }, { name := "INSERTIONSORT_THRESHOLD", type := .int, accessFlags := 26, slot := 1, constantValue := 0 }, { name := "$assertionsDisabled", type := .boolean, accessFlags := 4120, slot := 2, constantValue := 0 }]
  methods := #[k3m0, k3m1]
  instanceTypes := #[]
  staticTypes := #[.int, .int, .boolean]
  resolved := Array.replicate 1029 none
  statics := none }

def pool4 : Array CpInfo := pool [(1, .class_ 2), (0, u "java/lang/Math"), (1, .class_ 6), (1, u "java/lang/Object"), (0, u "<init>"), (0, u "()V"), (89, .class_ 100), (1, u "java/lang/Math$RandomNumberGeneratorHolder"), (71, u "negativeZeroFloatBits"), (0, u "J"), (2, u "negativeZeroDoubleBits"), (24, u "min"), (43, u "$assertionsDisabled"), (0, u "Z"), (88, u "(II)I"), (2, u "twoToTheDoubleScaleDown"), (0, u "D"), (4, u "twoToTheDoubleScaleUp"), (9, u "E"), (3, u "PI"), (2, u "TAU"), (2, u "DEGREES_TO_RADIANS"), (0, u "RADIANS_TO_DEGREES")] 94

def k4m0 : Method := { name := "<init>", desc := "()V", sig := { parameters := [], returnType := none }, accessFlags := 2, code := none }
def k4c1 : Code := { maxStack := 2, maxLocals := 2, code := jdk_29_method_69_code, exceptionTable := #[], attributes := #[] }
def k4m1 : Method := { name := "min", desc := "(II)I", sig := { parameters := [.int, .int], returnType := some .int }, accessFlags := 9, code := some k4c1 }
/-- java/lang/Math -/
def k4 : Class := { plain "java/lang/Math" (some 0) with
  accessFlags := 49
  interfaces := #[]
  cf := some (fileOf pool4 1 #[.nestMembers #[98]] #[{ accessFlags := 2, nameIndex := 7, descriptorIndex := 8, attributes := #[] }, { accessFlags := 9, nameIndex := 201, descriptorIndex := 335, attributes := #[] }] 49 4 #[] #[{ accessFlags := 25, nameIndex := 354, descriptorIndex := 339, attributes := #[] }, { accessFlags := 25, nameIndex := 358, descriptorIndex := 339, attributes := #[] }, { accessFlags := 25, nameIndex := 361, descriptorIndex := 339, attributes := #[] }, { accessFlags := 26, nameIndex := 364, descriptorIndex := 339, attributes := #[] }, { accessFlags := 26, nameIndex := 365, descriptorIndex := 339, attributes := #[] }, { accessFlags := 26, nameIndex := 172, descriptorIndex := 173, attributes := #[] }, { accessFlags := 26, nameIndex := 176, descriptorIndex := 173, attributes := #[] }, { accessFlags := 8, nameIndex := 344, descriptorIndex := 339, attributes := #[] }, { accessFlags := 8, nameIndex := 338, descriptorIndex := 339, attributes := #[] }, { accessFlags := 4120, nameIndex := 245, descriptorIndex := 246, attributes := #[] }])
  fields := #[{ name := "E", type := .double, accessFlags := 25, slot := 0, constantValue := 0 }, { name := "PI", type := .double, accessFlags := 25, slot := 1, constantValue := 0 }, { name := "TAU", type := .double, accessFlags := 25, slot := 2, constantValue := 0 }, { name := "DEGREES_TO_RADIANS", type := .double, accessFlags := 26, slot := 3, constantValue := 0 }, { name := "RADIANS_TO_DEGREES", type := .double, accessFlags := 26, slot := 4, constantValue := 0 }, { name := "negativeZeroFloatBits", type := .long, accessFlags := 26, slot := 5, constantValue := 0 }, { name := "negativeZeroDoubleBits", type := .long, accessFlags := 26, slot := 6, constantValue := 0 }, { name := "twoToTheDoubleScaleUp", type := .double, accessFlags := 8, slot := 7, constantValue := 0 }, { name := "twoToTheDoubleScaleDown", type := .double, accessFlags := 8, slot := 8, constantValue := 0 }, { name := "$assertionsDisabled", type := .boolean, accessFlags := 4120, slot := 9, constantValue := 0 }]
  methods := #[k4m0, k4m1]
  instanceTypes := #[]
  staticTypes := #[.double, .double, .double, .double, .double, .long, .long, .double, .double, .boolean]
  resolved := Array.replicate 460 none
  statics := none }

def pool5 : Array CpInfo := pool [(2, .class_ 4), (1, u "java/lang/Object"), (0, u "<init>"), (0, u "()V"), (1, .class_ 10), (1, u "java/lang/System"), (0, u "allowSecurityManager"), (0, u "I"), (16, u "cons"), (0, u "Ljava/io/Console;"), (77, .class_ 110), (1, u "java/lang/System$CallersHolder"), (43, u "initialErrStream"), (0, u "Ljava/io/PrintStream;"), (19, u "security"), (0, u "Ljava/lang/SecurityManager;"), (31, .class_ 209), (0, u "java/lang/System$1"), (7, u "props"), (0, u "Ljava/util/Properties;"), (2, u "lineSeparator"), (0, u "Ljava/lang/String;"), (96, .class_ 321), (1, u "java/lang/System$LoggerFinder"), (5, .class_ 328), (0, u "java/lang/System$Logger"), (67, u "err"), (2, u "out"), (91, u "notSupportedJnuEncoding"), (15, u "in"), (17, u "initialIn"), (0, u "Ljava/io/InputStream;"), (35, u "bootLayer"), (0, u "Ljava/lang/ModuleLayer;"), (99, .class_ 664), (0, u "java/lang/System$2"), (9, u "NEVER"), (2, u "MAYBE"), (49, u "arraycopy"), (0, u "(Ljava/lang/Object;ILjava/lang/Object;II)V"), (72, .class_ 802), (0, u "java/lang/System$Logger$Level")] 31

def k5m0 : Method := { name := "<init>", desc := "()V", sig := { parameters := [], returnType := none }, accessFlags := 2, code := none }
def k5m1 : Method := { name := "arraycopy", desc := "(Ljava/lang/Object;ILjava/lang/Object;II)V", sig := { parameters := [(.object "java/lang/Object"), .int, (.object "java/lang/Object"), .int, .int], returnType := none }, accessFlags := 265, code := none }
/-- java/lang/System -/
def k5 : Class := { plain "java/lang/System" (some 0) with
  accessFlags := 49
  interfaces := #[]
  cf := some (fileOf pool5 8 #[.nestMembers #[319, 327, 801, 108, 663, 208]] #[{ accessFlags := 2, nameIndex := 5, descriptorIndex := 6, attributes := #[] }, { accessFlags := 265, nameIndex := 727, descriptorIndex := 728, attributes := #[] }] 49 2 #[] #[{ accessFlags := 25, nameIndex := 507, descriptorIndex := 526, attributes := #[] }, { accessFlags := 25, nameIndex := 399, descriptorIndex := 155, attributes := #[] }, { accessFlags := 25, nameIndex := 396, descriptorIndex := 155, attributes := #[] }, { accessFlags := 10, nameIndex := 525, descriptorIndex := 526, attributes := #[] }, { accessFlags := 26, nameIndex := 674, descriptorIndex := 12, attributes := #[] }, { accessFlags := 26, nameIndex := 677, descriptorIndex := 12, attributes := #[] }, { accessFlags := 10, nameIndex := 11, descriptorIndex := 12, attributes := #[] }, { accessFlags := 74, nameIndex := 175, descriptorIndex := 176, attributes := #[] }, { accessFlags := 10, nameIndex := 491, descriptorIndex := 222, attributes := #[] }, { accessFlags := 74, nameIndex := 29, descriptorIndex := 30, attributes := #[] }, { accessFlags := 74, nameIndex := 154, descriptorIndex := 155, attributes := #[] }, { accessFlags := 10, nameIndex := 217, descriptorIndex := 218, attributes := #[] }, { accessFlags := 10, nameIndex := 221, descriptorIndex := 222, attributes := #[] }, { accessFlags := 8, nameIndex := 562, descriptorIndex := 563, attributes := #[] }])
  fields := #[{ name := "in", type := (.object "java/io/InputStream"), accessFlags := 25, slot := 0, constantValue := 0 }, { name := "out", type := (.object "java/io/PrintStream"), accessFlags := 25, slot := 1, constantValue := 0 }, { name := "err", type := (.object "java/io/PrintStream"), accessFlags := 25, slot := 2, constantValue := 0 }, { name := "initialIn", type := (.object "java/io/InputStream"), accessFlags := 10, slot := 3, constantValue := 0 }, { name := "NEVER", type := .int, accessFlags := 26, slot := 4, constantValue := 0 }, { name := "MAYBE", type := .int, accessFlags := 26, slot := 5, constantValue := 0 }, { name := "allowSecurityManager", type := .int, accessFlags := 10, slot := 6, constantValue := 0 }, { name := "security", type := (.object "java/lang/SecurityManager"), accessFlags := 74, slot := 7, constantValue := 0 }, { name := "notSupportedJnuEncoding", type := (.object "java/lang/String"), accessFlags := 10, slot := 8, constantValue := 0 }, { name := "cons", type := (.object "java/io/Console"), accessFlags := 74, slot := 9, constantValue := 0 }, { name := "initialErrStream", type := (.object "java/io/PrintStream"), accessFlags := 74, slot := 10, constantValue := 0 }, { name := "props", type := (.object "java/util/Properties"), accessFlags := 10, slot := 11, constantValue := 0 }, { name := "lineSeparator", type := (.object "java/lang/String"), accessFlags := 10, slot := 12, constantValue := 0 }, { name := "bootLayer", type := (.object "java/lang/ModuleLayer"), accessFlags := 8, slot := 13, constantValue := 0 }]
  methods := #[k5m0, k5m1]
  instanceTypes := #[]
  staticTypes := #[(.object "java/io/InputStream"), (.object "java/io/PrintStream"), (.object "java/io/PrintStream"), (.object "java/io/InputStream"), .int, .int, .int, (.object "java/lang/SecurityManager"), (.object "java/lang/String"), (.object "java/io/Console"), (.object "java/io/PrintStream"), (.object "java/util/Properties"), (.object "java/lang/String"), (.object "java/lang/ModuleLayer")]
  resolved := Array.replicate 834 none
  statics := none }

def pool6 : Array CpInfo := pool [(1, u "java/lang/Cloneable"), (0, .class_ 1), (0, u "java/lang/Object"), (0, .class_ 3)] 3

/-- java/lang/Cloneable -/
def k6 : Class := { plain "java/lang/Cloneable" (some 0) with
  accessFlags := 1537
  interfaces := #[]
  cf := some (fileOf pool6 2 #[] #[] 1537 4 #[] #[])
  fields := #[]
  methods := #[]
  instanceTypes := #[]
  staticTypes := #[]
  resolved := Array.replicate 8 none
  statics := none }

def pool7 : Array CpInfo := pool [(1, u "java/io/Serializable"), (0, .class_ 1), (0, u "java/lang/Object"), (0, .class_ 3)] 3

/-- java/io/Serializable -/
def k7 : Class := { plain "java/io/Serializable" (some 0) with
  accessFlags := 1537
  interfaces := #[]
  cf := some (fileOf pool7 2 #[] #[] 1537 4 #[] #[])
  fields := #[]
  methods := #[]
  instanceTypes := #[]
  staticTypes := #[]
  resolved := Array.replicate 8 none
  statics := none }

/-- the primitive byte -/
def k8 : Class := { plain "byte" none with kind := .primitive 'B', accessFlags := 0x411 }
/-- [B -/
def k9 : Class := { plain "[B" (some 0) with kind := .array 8 .byte, interfaces := #[6, 7], accessFlags := 1041 }

/-- the primitive int -/
def k10 : Class := { plain "int" none with kind := .primitive 'I', accessFlags := 0x411 }
/-- [I -/
def k11 : Class := { plain "[I" (some 0) with kind := .array 10 .int, interfaces := #[6, 7], accessFlags := 1041 }

def heap : Heap := #[]
def classes : Array Class := #[k0, k1, k2, k3, k4, k5, k6, k7, k8, k9, k10, k11]
def interned : List (Array UInt16 × Addr) := []
def slotsUsed : Nat := 0
def theMethod : MethodId := ⟨1, 2⟩
def args0 : Array Value := #[.int 5, .int 6, .int 7]
def aboutOver (below : List Frame) : State where
  vm := { classes := classes, interned := interned.toArray }
  heap := heap
  slotsUsed := slotsUsed
  threads := #[{ frames := .invoking theMethod args0 :: below }]
def below0 : List Frame := [.native { method := ⟨0, 0⟩, args := #[] }]
def about1 : State := aboutOver below0
def p0 : Program := .bare "" "" ""
def e0 : Env := launch0.env 0 0 0
theorem w_frames : about1.frames = Frame.invoking theMethod args0 :: below0 := rfl
set_option maxRecDepth 65536 in
theorem w_args : argsFit about1.vm theMethod args0 = true := by decide +kernel
set_option maxRecDepth 65536 in
theorem w_heap : heapFits about1 = true := by decide +kernel
set_option maxRecDepth 65536 in
theorem w_runnable : about1.curStatus? = some .runnable := by decide +kernel
set_option maxRecDepth 65536 in
theorem w_alone : about1.alone = true := by decide +kernel
set_option maxRecDepth 65536 in
theorem w_named : about1.methodNamed? x = some theMethod := by decide +kernel
set_option maxRecDepth 65536 in
theorem w_hears : about1.hears theMethod below0 = true := by decide +kernel
set_option maxRecDepth 65536 in
theorem w_ripe : about1.ripe theMethod args0 below0 = true := by decide +kernel
theorem w_running : about1.status = .running := rfl
set_option maxRecDepth 65536 in
theorem w_room : about1.hasRoom e0.platform room_1 = true :=
  launch0.hasRoom_least _ room_1 (by decide +kernel) (by decide +kernel) (by decide +kernel) (by decide +kernel) (by decide +kernel) (by decide +kernel)
theorem allAtoms_all (ts : List Jvm.Cond) (a : Array Jvm.Value) (st : Jvm.State) : (allAtoms ts).before a st = ts.all (fun c => c.before a st) := by
  induction ts with
  | nil => rfl
  | cons c t ih =>
    show (Jvm.Cond.and c (allAtoms t)).before a st = _
    rw [Jvm.Cond.before_and, ih, List.all_cons]
def words1 : List Jvm.Cond := Jvm.Cond.code x code maxLocals ret :: tables_1
/-- a 'code' word, met by the world's own term for the bytes: nothing is compared byte by byte -/
theorem code_word {y : MethodName} {bytes : ByteArray} {mx : Nat} {rt : Option FieldType} {a : Array Value} {s : State} {m : MethodId} {meth : Method} {c : Code} (h1 : s.methodNamed? y = some m) (h2 : s.vm.method? m = some meth) (h3 : meth.code = some c) (h4 : c.code = bytes)
    (h5 : (c.maxLocals == mx && c.exceptionTable.isEmpty && decide (c.maxStack ≤ mostOperands) && decide (meth.sig.returnType = rt) && !meth.locks && decide (parseMethodDescriptor y.desc = some meth.sig)) = true) : (Jvm.Cond.code y bytes mx rt).before a s = true := by
  simp only [Bool.and_eq_true, beq_iff_eq, Bool.not_eq_true', decide_eq_true_eq] at h5
  obtain ⟨⟨⟨⟨⟨g1, g2⟩, g3⟩, g4⟩, g5⟩, g6⟩ := h5
  simp [Cond.before, Cond.holds, Cond.value, h1, h2, h3, h4, g1, g2, g3, g4, g5, g6]
def isCode : Jvm.Cond → Bool
  | .code _ _ _ _ => true
  | _ => false
theorem all_split {L : List Jvm.Cond} {P : Jvm.Cond → Bool} (h1 : L.all (fun c => isCode c || P c) = true) (h2 : ∀ c ∈ L.filter isCode, P c = true) : L.all P = true := by
  refine List.all_eq_true.mpr fun c hc => ?_
  have h := List.all_eq_true.mp h1 c hc
  rcases Bool.eq_false_or_eq_true (isCode c) with hi | hi
  · exact h2 c (List.mem_filter.mpr ⟨hc, hi⟩)
  · simpa [hi] using h
set_option maxRecDepth 65536 in
theorem w_c0 : (Jvm.Cond.code x code maxLocals ret).before args0 about1 = true := code_word (m := ⟨1, 2⟩) (meth := k1m2) (c := k1c2) (by decide +kernel) rfl rfl rfl (by decide +kernel)
set_option maxRecDepth 65536 in
theorem w_c1 : (Jvm.Cond.code ({ cls := "com/example/kwerx/kwerx/index/IntList", name := "<init>", desc := "()V" } : Jvm.MethodName) prog_51_method_1_code (1 : Nat) (Option.none : Option Jvm.ClassFile.FieldType)).before args0 about1 = true := code_word (m := ⟨2, 0⟩) (meth := k2m0) (c := k2c0) (by decide +kernel) rfl rfl rfl (by decide +kernel)
set_option maxRecDepth 65536 in
theorem w_c2 : (Jvm.Cond.code ({ cls := "java/lang/Object", name := "<init>", desc := "()V" } : Jvm.MethodName) object_method_1_code (1 : Nat) (Option.none : Option Jvm.ClassFile.FieldType)).before args0 about1 = true := code_word (m := ⟨0, 0⟩) (meth := k0m0) (c := k0c0) (by decide +kernel) rfl rfl rfl (by decide +kernel)
set_option maxRecDepth 65536 in
theorem w_c3 : (Jvm.Cond.code ({ cls := "com/example/kwerx/kwerx/index/IntListAddPinLaw", name := "step", desc := "(Lcom/example/kwerx/kwerx/index/IntList;IIII)V" } : Jvm.MethodName) method_2_code (5 : Nat) (Option.none : Option Jvm.ClassFile.FieldType)).before args0 about1 = true := code_word (m := ⟨1, 1⟩) (meth := k1m1) (c := k1c1) (by decide +kernel) rfl rfl rfl (by decide +kernel)
set_option maxRecDepth 65536 in
theorem w_c4 : (Jvm.Cond.code ({ cls := "com/example/kwerx/kwerx/index/IntList", name := "size", desc := "()I" } : Jvm.MethodName) prog_51_method_6_code (1 : Nat) (Option.some Jvm.ClassFile.FieldType.int)).before args0 about1 = true := code_word (m := ⟨2, 3⟩) (meth := k2m3) (c := k2c3) (by decide +kernel) rfl rfl rfl (by decide +kernel)
set_option maxRecDepth 65536 in
theorem w_c5 : (Jvm.Cond.code ({ cls := "com/example/kwerx/kwerx/index/IntList", name := "add", desc := "(I)V" } : Jvm.MethodName) prog_51_method_2_code (2 : Nat) (Option.none : Option Jvm.ClassFile.FieldType)).before args0 about1 = true := code_word (m := ⟨2, 1⟩) (meth := k2m1) (c := k2c1) (by decide +kernel) rfl rfl rfl (by decide +kernel)
set_option maxRecDepth 65536 in
theorem w_c6 : (Jvm.Cond.code ({ cls := "com/example/kwerx/kwerx/index/IntList", name := "get", desc := "(I)I" } : Jvm.MethodName) prog_51_method_3_code (2 : Nat) (Option.some Jvm.ClassFile.FieldType.int)).before args0 about1 = true := code_word (m := ⟨2, 2⟩) (meth := k2m2) (c := k2c2) (by decide +kernel) rfl rfl rfl (by decide +kernel)
set_option maxRecDepth 65536 in
theorem w_c7 : (Jvm.Cond.code ({ cls := "java/util/Arrays", name := "copyOf", desc := "([II)[I" } : Jvm.MethodName) jdk_65_method_123_code (3 : Nat) (Option.some (Jvm.ClassFile.FieldType.array Jvm.ClassFile.FieldType.int))).before args0 about1 = true := code_word (m := ⟨3, 1⟩) (meth := k3m1) (c := k3c1) (by decide +kernel) rfl rfl rfl (by decide +kernel)
set_option maxRecDepth 65536 in
theorem w_c8 : (Jvm.Cond.code ({ cls := "java/lang/Math", name := "min", desc := "(II)I" } : Jvm.MethodName) jdk_29_method_69_code (2 : Nat) (Option.some Jvm.ClassFile.FieldType.int)).before args0 about1 = true := code_word (m := ⟨4, 1⟩) (meth := k4m1) (c := k4c1) (by decide +kernel) rfl rfl rfl (by decide +kernel)
def codes1 : List Jvm.Cond := [Jvm.Cond.code x code maxLocals ret, Jvm.Cond.code ({ cls := "com/example/kwerx/kwerx/index/IntList", name := "<init>", desc := "()V" } : Jvm.MethodName) prog_51_method_1_code (1 : Nat) (Option.none : Option Jvm.ClassFile.FieldType), Jvm.Cond.code ({ cls := "java/lang/Object", name := "<init>", desc := "()V" } : Jvm.MethodName) object_method_1_code (1 : Nat) (Option.none : Option Jvm.ClassFile.FieldType), Jvm.Cond.code ({ cls := "com/example/kwerx/kwerx/index/IntListAddPinLaw", name := "step", desc := "(Lcom/example/kwerx/kwerx/index/IntList;IIII)V" } : Jvm.MethodName) method_2_code (5 : Nat) (Option.none : Option Jvm.ClassFile.FieldType), Jvm.Cond.code ({ cls := "com/example/kwerx/kwerx/index/IntList", name := "size", desc := "()I" } : Jvm.MethodName) prog_51_method_6_code (1 : Nat) (Option.some Jvm.ClassFile.FieldType.int), Jvm.Cond.code ({ cls := "com/example/kwerx/kwerx/index/IntList", name := "add", desc := "(I)V" } : Jvm.MethodName) prog_51_method_2_code (2 : Nat) (Option.none : Option Jvm.ClassFile.FieldType), Jvm.Cond.code ({ cls := "com/example/kwerx/kwerx/index/IntList", name := "get", desc := "(I)I" } : Jvm.MethodName) prog_51_method_3_code (2 : Nat) (Option.some Jvm.ClassFile.FieldType.int), Jvm.Cond.code ({ cls := "java/util/Arrays", name := "copyOf", desc := "([II)[I" } : Jvm.MethodName) jdk_65_method_123_code (3 : Nat) (Option.some (Jvm.ClassFile.FieldType.array Jvm.ClassFile.FieldType.int)), Jvm.Cond.code ({ cls := "java/lang/Math", name := "min", desc := "(II)I" } : Jvm.MethodName) jdk_29_method_69_code (2 : Nat) (Option.some Jvm.ClassFile.FieldType.int)]
set_option maxRecDepth 65536 in
theorem codes_eq : words1.filter isCode = codes1 := rfl
theorem w_codes : ∀ c ∈ words1.filter isCode, c.before args0 about1 = true := by
  rw [codes_eq]
  intro c hc
  simp only [codes1, List.mem_cons, List.not_mem_nil, or_false] at hc
  rcases hc with rfl | rfl | rfl | rfl | rfl | rfl | rfl | rfl | rfl
  · exact w_c0
  · exact w_c1
  · exact w_c2
  · exact w_c3
  · exact w_c4
  · exact w_c5
  · exact w_c6
  · exact w_c7
  · exact w_c8
set_option maxRecDepth 65536 in
theorem w_t1 : (words1.take 24).all (fun c => isCode c || c.before args0 about1) = true := by decide +kernel
set_option maxRecDepth 65536 in
theorem w_t2 : (words1.drop 24).all (fun c => isCode c || c.before args0 about1) = true := by decide +kernel
theorem w_tables : (allAtoms (Jvm.Cond.code x code maxLocals ret :: tables_1)).before args0 about1 = true := by
  rw [allAtoms_all]
  show words1.all (fun c => c.before args0 about1) = true
  refine all_split ?_ w_codes
  rw [← List.take_append_drop 24 words1, List.all_append, w_t1, w_t2]
  rfl
set_option maxRecDepth 65536 in
theorem w_case : (Jvm.Cond.and given_1 narrow_1).before args0 about1 = true := by decide +kernel
theorem w_applies : (headSpec (Jvm.Cond.code x code maxLocals ret :: tables_1) room_1).applies x e0.platform about1 = true :=
  (Spec.applies_iff w_frames).mpr ⟨w_running, w_runnable, w_alone, w_named, w_hears, w_ripe, w_room, w_tables⟩
theorem atStart : AtStart classFile x code maxLocals ret World_1 tables_1 room_1 Calls_1 rest_1 Pre_1 launch0 p0 e0 about1 theMethod args0 below0 :=
  ⟨lists_1, trivial, launch0.admits_env _ _ _, launch0.least_env, fairChoices_fair.cas, fairChoices_fair.clock, w_frames, w_args, w_heap, w_applies, trivial, trivial, w_case⟩
end start1
theorem witness_1 : WitnessClaimed_1 := ⟨start1.p0, start1.e0, start1.about1, start1.theMethod, start1.args0, start1.below0, start1.atStart⟩
end Jvm.Pilot.@@N@@
