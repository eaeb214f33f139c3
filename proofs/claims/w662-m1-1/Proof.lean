import JvmDerived
import JvmDerived.Pilot.@@N@@Statement
import JvmDerived.Pilot.@@N@@Code
set_option linter.unusedVariables false
set_option linter.unusedSimpArgs false
namespace Jvm.Pilot.@@N@@
open Jvm Jvm.ClassFile Sem Op Lib Jvm.Free Jvm.Stand Jvm.LawKit Jvm.RoadKit Bundle Jvm.Pilot.@@N@@.Jvm.D
section Own
variable {p : Program} {l : Launch} {e : Env} {R : Room} {s : State} {m : MethodId} {args : Array Value} {below : List Frame} {meth : Method} {c : Code} {T T' : State} {locs : List Loc} {cells slots : Nat} {G : Outcome → State → Prop} {g g' : JFrame} {Z : State} {h h' h0 : Heap} {a b : Addr} {n0 : Nat} {Q : Option Value → Heap → List Loc → Prop} {CC SS : Nat}
/-- the run from T, with the frame g on top, ends as G wants it -/
def Win (p : Program) (e : Env) (below : List Frame) (G : Outcome → State → Prop) (T : State) (g : JFrame) : Prop :=
  ∃ s₂ o, Steps p.tables e below (T.setTop g) s₂ ∧ s₂.status = .running ∧ Ended s₂ below o ∧ G o s₂
theorem Win.st (W : Win p e below G T' g') (st : ∀ t, Steps p.tables e below (T'.setTop g') t → Steps p.tables e below (T.setTop g) t) : Win p e below G T g := by
  obtain ⟨s2, o, h1, h2⟩ := W
  exact ⟨s2, o, st _ h1, h2⟩
theorem Win.tr (W : Win p e below G T' g') (st : Steps p.tables e below (T.setTop g) (T'.setTop g')) : Win p e below G T g := by
  obtain ⟨s2, o, h1, h2⟩ := W
  exact ⟨s2, o, st.trans h1, h2⟩
/-- how a body ends: it returned v, Q of the value and the heap, the frame -/
def Ends (s : State) (Q : Option Value → Heap → List Loc → Prop) (CC SS : Nat) (o : Outcome) (U : State) : Prop := ∃ v L, o = .returned v ∧ Q v U.heap L ∧ FrameEnd s o U L CC SS
theorem Win.ret (X : Stand p l e R s m args below meth c T locs cells slots) (hx : p.tables.exec = Jvm.exec) (hlk : meth.locks = false) (eT : T.heap = h) {pc : Nat} {Ls : Array Slot} {w : Value} {t : FieldType} {i : Instr} {rest : List Value} (hret : meth.sig.returnType = some t) (hn : narrow t w = w)
    (hi : (i = .ireturn ∧ (t = .int ∨ t = .boolean ∨ t = .byte ∨ t = .char ∨ t = .short) ∧ ∃ z, w = .int z) ∨ (i = .lreturn ∧ t = .long ∧ ∃ z, w = .long z) ∨ (i = .dreturn ∧ t = .double ∧ ∃ z, w = .double z) ∨ (i = .freturn ∧ t = .float ∧ ∃ z, w = .float z) ∨ (i = .areturn ∧ t.isReference = true ∧ w.isRef = true))
    (hd : decode c.code pc = .ok (i, 1)) (hc : cells ≤ CC) (hs : slots ≤ SS) (hQ : Q (some w) h locs) : Win p e below (Ends s Q CC SS) T (mkF m pc Ls (w :: rest)) := by
  obtain ⟨fs, hr, hrun, hended, hW, hsame⟩ := X.leave (v := some w) (fun h => by rw [hret] at h; cases h) hlk
  subst eT
  exact ⟨_, _, retOut X hx hret hn hi hd hr, hrun, hended, _, _, rfl, hQ, ⟨_, rfl⟩, hW, hsame.mono hc hs⟩
theorem Win.retN (X : Stand p l e R s m args below meth c T locs cells slots) (hx : p.tables.exec = Jvm.exec) (hlk : meth.locks = false) (eT : T.heap = h) {pc : Nat} {Ls : Array Slot} {z z' : Int32} {t : FieldType} {rest : List Value} (hret : meth.sig.returnType = some t) (ht : t = .boolean ∨ t = .byte ∨ t = .char ∨ t = .short)
    (hd : decode c.code pc = .ok (.ireturn, 1)) (hc : cells ≤ CC) (hs : slots ≤ SS) (hz : nar t z = z') (hQ : Q (some (.int z')) h locs) : Win p e below (Ends s Q CC SS) T (mkF m pc Ls (.int z :: rest)) := by
  subst hz
  obtain ⟨fs, hr, hrun, hended, hW, hsame⟩ := X.leave (v := some (.int (nar t z))) (fun h => by rw [hret] at h; cases h) hlk
  subst eT
  exact ⟨_, _, Jvm.RoadKit.retN X hx hret ht hd hr, hrun, hended, _, _, rfl, hQ, ⟨_, rfl⟩, hW, hsame.mono hc hs⟩
theorem Win.retV (X : Stand p l e R s m args below meth c T locs cells slots) (hx : p.tables.exec = Jvm.exec) (hlk : meth.locks = false) (eT : T.heap = h) {pc : Nat} {Ls : Array Slot} (hret : meth.sig.returnType = none)
    (hd : decode c.code pc = .ok (.return_, 1)) (hc : cells ≤ CC) (hs : slots ≤ SS) (hQ : Q none h locs) : Win p e below (Ends s Q CC SS) T (mkF m pc Ls []) := by
  obtain ⟨fs, hr, hrun, hended, hW, hsame⟩ := X.leave (v := none) (fun _ => rfl) hlk
  subst eT
  exact ⟨_, _, X.returnOut hx hret hd hr, hrun, hended, _, _, rfl, hQ, ⟨_, rfl⟩, hW, hsame.mono hc hs⟩
theorem own_hide {k : Nat} {sl : Nat} (X : Stand p l e R s m args below meth c T (locs ++ [⟨a, sl⟩]) cells slots) (N : Fr k locs) (q : k ≤ a) : ∃ L, Stand p l e R s m args below meth c T L cells slots ∧ Fr k L := ⟨_, X, Fr.snoc X N q⟩
theorem own_kext (E : Ext h h') : Keep h h' [] := (Keep.refl h []).ext E
theorem own_new {x : Addr} (g : b = h.size) (q : x < h.size) : x ≠ b := Nat.ne_of_lt (g ▸ q)
theorem own_newle (Z0 : n0 ≤ h.size) (g : b = h.size) : n0 ≤ b := g ▸ Z0
theorem own_len {k : ClassId} {ty : FieldType} {z : Int32} {vs : List Value} {dv : Value} (V : Arv Z h a k ty z vs dv) : ¬ z < 0 := by obtain ⟨_, _, _, _, q, _⟩ := V; exact q
theorem own_alen {k : ClassId} {ty : FieldType} {z : Int32} {vs : List Value} {dv : Value} (X : Stand p l e R s m args below meth c T locs cells slots) (hx : p.tables.exec = Jvm.exec) (hZ : Z.Warmed39 s.vm) (eT : T.heap = h) (V : Arv Z h a k ty z vs dv) {rest : List Value} (hg : g.method = m) (hs : g.stack = .ref a :: rest) (hd : decode c.code g.pc = .ok (.arraylength, 1)) :
    ∀ target, Steps p.tables e below (T.setTop { g with pc := g.pc + 1, stack := .int z :: rest }) target → Steps p.tables e below (T.setTop g) target := by
  obtain ⟨cl, A, -, S, q, -, -⟩ := V
  intro t k
  refine X.arraylength hx (by rw [eT]; exact A.1) (State.isArrayOf_alike hZ.alike A.2.1) hg hs hd _ ?_
  rw [len_of S q]; exact k
theorem own_iald {k : ClassId} {z : Int32} {vs : List Value} {dv : Value} (X : Stand p l e R s m args below meth c T locs cells slots) (hx : p.tables.exec = Jvm.exec) (hZ : Z.Warmed39 s.vm) (eT : T.heap = h) (V : Arv Z h a k .int z vs dv) {j : Int32} {v : Value} (h1 : ¬ j < 0) (h2 : j < z) (hv : vs.getD j.toNatClampNeg dv = v) {rest : List Value} (hg : g.method = m) (hs : g.stack = .int j :: .ref a :: rest) (hd : decode c.code g.pc = .ok (.iaload, 1)) :
    ∀ target, Steps p.tables e below (T.setTop { g with pc := g.pc + 1, stack := v :: rest }) target → Steps p.tables e below (T.setTop g) target := by
  obtain ⟨cl, A, -, S, q, H, -⟩ := V
  have hin := inb_of S ⟨h1, h2⟩
  exact X.iaload hx (by rw [eT]; exact A.1) (State.isArrayOf_alike hZ.alike A.2.1) A.2.2 hin (H.at hin hv) hg hs hd
theorem own_bald {k : ClassId} {z : Int32} {vs : List Value} {dv : Value} (X : Stand p l e R s m args below meth c T locs cells slots) (hx : p.tables.exec = Jvm.exec) (hZ : Z.Warmed39 s.vm) (eT : T.heap = h) (V : Arv Z h a k .byte z vs dv) {j : Int32} {v : Value} (h1 : ¬ j < 0) (h2 : j < z) (hv : vs.getD j.toNatClampNeg dv = v) {rest : List Value} (hg : g.method = m) (hs : g.stack = .int j :: .ref a :: rest) (hd : decode c.code g.pc = .ok (.baload, 1)) :
    ∀ target, Steps p.tables e below (T.setTop { g with pc := g.pc + 1, stack := v :: rest }) target → Steps p.tables e below (T.setTop g) target := by
  obtain ⟨cl, A, -, S, q, H, -⟩ := V
  have hin := inb_of S ⟨h1, h2⟩
  exact X.baloadBytes hx (by rw [eT]; exact A.1) (State.isArrayOf_alike hZ.alike A.2.1) A.2.2 hin (H.at hin hv) hg hs hd
theorem own_cald {k : ClassId} {z : Int32} {vs : List Value} {dv : Value} (X : Stand p l e R s m args below meth c T locs cells slots) (hx : p.tables.exec = Jvm.exec) (hZ : Z.Warmed39 s.vm) (eT : T.heap = h) (V : Arv Z h a k .char z vs dv) {j : Int32} {v : Value} (h1 : ¬ j < 0) (h2 : j < z) (hv : vs.getD j.toNatClampNeg dv = v) {rest : List Value} (hg : g.method = m) (hs : g.stack = .int j :: .ref a :: rest) (hd : decode c.code g.pc = .ok (.caload, 1)) :
    ∀ target, Steps p.tables e below (T.setTop { g with pc := g.pc + 1, stack := v :: rest }) target → Steps p.tables e below (T.setTop g) target := by
  obtain ⟨cl, A, -, S, q, H, -⟩ := V
  have hin := inb_of S ⟨h1, h2⟩
  exact X.caload hx (by rw [eT]; exact A.1) (State.isArrayOf_alike hZ.alike A.2.1) A.2.2 hin (H.at hin hv) hg hs hd
theorem own_cast {k : ClassId} {z : Int32} {vs : List Value} {dv : Value} (X : Stand p l e R s m args below meth c T locs cells slots) (hx : p.tables.exec = Jvm.exec) (hZ : Z.Warmed39 s.vm) (eT : T.heap = h) (N : Fr n0 locs) (ge : n0 ≤ a) (V : Arv Z h a k .char z vs dv) {j x : Int32} (h1 : ¬ j < 0) (h2 : j < z) {i : Nat} (hj : j.toNatClampNeg = i) (hi : i < vs.length) {rest : List Value} (hg : g.method = m) (hs : g.stack = .int x :: .int j :: .ref a :: rest) (hd : decode c.code g.pc = .ok (.castore, 1)) :
    ∃ T' h' L, Stand p l e R s m args below meth c T' L cells slots ∧ Fr n0 L ∧ T'.heap = h' ∧ Keep h h' [a] ∧ Arv Z h' a k .char z (vs.set i (.int (x.toUInt32.toUInt16.toUInt32.toInt32))) dv ∧ ∀ target, Steps p.tables e below (T'.setTop { g with pc := g.pc + 1, stack := rest }) target → Steps p.tables e below (T.setTop g) target := by
  obtain ⟨cl, A, q1, S, q, H, Gf⟩ := V
  have hin := inb_of S ⟨h1, h2⟩
  obtain ⟨T', h', X', e', W, st⟩ := stC X hx hZ eT A hin hg hs hd
  exact ⟨T', h', _, X', Fr.snoc X' N ge, e', Keep.of_wr W, Arv.set A q1 S q H Gf (fits_nar_char x) W i hj hi, st⟩
theorem own_iast {k : ClassId} {z : Int32} {vs : List Value} {dv : Value} (X : Stand p l e R s m args below meth c T locs cells slots) (hx : p.tables.exec = Jvm.exec) (hZ : Z.Warmed39 s.vm) (eT : T.heap = h) (N : Fr n0 locs) (ge : n0 ≤ a) (V : Arv Z h a k .int z vs dv) {j x : Int32} (h1 : ¬ j < 0) (h2 : j < z) {i : Nat} (hj : j.toNatClampNeg = i) (hi : i < vs.length) {rest : List Value} (hg : g.method = m) (hs : g.stack = .int x :: .int j :: .ref a :: rest) (hd : decode c.code g.pc = .ok (.iastore, 1)) :
    ∃ T' h' L, Stand p l e R s m args below meth c T' L cells slots ∧ Fr n0 L ∧ T'.heap = h' ∧ Keep h h' [a] ∧ Arv Z h' a k .int z (vs.set i (.int x)) dv ∧ ∀ target, Steps p.tables e below (T'.setTop { g with pc := g.pc + 1, stack := rest }) target → Steps p.tables e below (T.setTop g) target := by
  obtain ⟨cl, A, q1, S, q, H, Gf⟩ := V
  have hin := inb_of S ⟨h1, h2⟩
  obtain ⟨T', h', X', e', W, st⟩ := stI X hx hZ eT A hin hg hs hd
  exact ⟨T', h', _, X', Fr.snoc X' N ge, e', Keep.of_wr W, Arv.set A q1 S q H Gf rfl W i hj hi, st⟩
theorem own_bast {k : ClassId} {z : Int32} {vs : List Value} {dv : Value} (X : Stand p l e R s m args below meth c T locs cells slots) (hx : p.tables.exec = Jvm.exec) (hZ : Z.Warmed39 s.vm) (eT : T.heap = h) (N : Fr n0 locs) (ge : n0 ≤ a) (V : Arv Z h a k .byte z vs dv) {j x : Int32} (h1 : ¬ j < 0) (h2 : j < z) {i : Nat} (hj : j.toNatClampNeg = i) (hi : i < vs.length) {rest : List Value} (hg : g.method = m) (hs : g.stack = .int x :: .int j :: .ref a :: rest) (hd : decode c.code g.pc = .ok (.bastore, 1)) :
    ∃ T' h' L, Stand p l e R s m args below meth c T' L cells slots ∧ Fr n0 L ∧ T'.heap = h' ∧ Keep h h' [a] ∧ Arv Z h' a k .byte z (vs.set i (.int x.toInt8.toInt32)) dv ∧ ∀ target, Steps p.tables e below (T'.setTop { g with pc := g.pc + 1, stack := rest }) target → Steps p.tables e below (T.setTop g) target := by
  obtain ⟨cl, A, q1, S, q, H, Gf⟩ := V
  have hin := inb_of S ⟨h1, h2⟩
  obtain ⟨T', h', X', e', W, st⟩ := stB X hx hZ eT A hin hg hs hd
  exact ⟨T', h', _, X', Fr.snoc X' N ge, e', Keep.of_wr W, Arv.set A q1 S q H Gf (fits_nar_byte x) W i hj hi, st⟩
/-- how a body ends that may have interned a String -/
def EndsW (s : State) (Q : Option Value → Heap → List Loc → Prop) (CC SS : Nat) (o : Outcome) (U : State) : Prop := ∃ v L, o = .returned v ∧ Q v U.heap L ∧ ReturnedEndW s o U L CC SS
theorem Win.retNW {vm₁ : Vm} {k1 : Nat} (X : Stand p l e R (s.setVm vm₁) m args below meth c T locs cells slots) (hS : s.Since vm₁ k1) (hk : k1 ≤ h.size) (hx : p.tables.exec = Jvm.exec) (hlk : meth.locks = false) (eT : T.heap = h) {pc : Nat} {Ls : Array Slot} {z z' : Int32} {t : FieldType} {rest : List Value} (hret : meth.sig.returnType = some t) (ht : t = .boolean ∨ t = .byte ∨ t = .char ∨ t = .short)
    (hd : decode c.code pc = .ok (.ireturn, 1)) (hc : cells ≤ CC) (hs : slots ≤ SS) (hz : nar t z = z') (hQ : Q (some (.int z')) h locs) : Win p e below (EndsW s Q CC SS) T (mkF m pc Ls (.int z :: rest)) := by
  subst hz
  subst eT
  obtain ⟨fs, hr, hrun, hended, h1, h2, h3, h4⟩ := X.leaveW hS hk (v := some (.int (nar t z))) (fun h => by rw [hret] at h; cases h) hlk
  exact ⟨_, _, Jvm.RoadKit.retN X hx hret ht hd hr, hrun, hended, _, _, rfl, hQ, h1, h2, h3, h4.mono hc hs⟩
theorem Win.retVW {vm₁ : Vm} {k1 : Nat} (X : Stand p l e R (s.setVm vm₁) m args below meth c T locs cells slots) (hS : s.Since vm₁ k1) (hk : k1 ≤ h.size) (hx : p.tables.exec = Jvm.exec) (hlk : meth.locks = false) (eT : T.heap = h) {pc : Nat} {Ls : Array Slot} (hret : meth.sig.returnType = none)
    (hd : decode c.code pc = .ok (.return_, 1)) (hc : cells ≤ CC) (hs : slots ≤ SS) (hQ : Q none h locs) : Win p e below (EndsW s Q CC SS) T (mkF m pc Ls []) := by
  subst eT
  obtain ⟨fs, hr, hrun, hended, h1, h2, h3, h4⟩ := X.leaveW hS hk (v := none) (fun _ => rfl) hlk
  exact ⟨_, _, X.returnOut hx hret hd hr, hrun, hended, _, _, rfl, hQ, h1, h2, h3, h4.mono hc hs⟩
theorem Win.retRW {vm₁ : Vm} {k1 : Nat} (X : Stand p l e R (s.setVm vm₁) m args below meth c T locs cells slots) (hS : s.Since vm₁ k1) (hk : k1 ≤ h.size) (hx : p.tables.exec = Jvm.exec) (hlk : meth.locks = false) (eT : T.heap = h) {pc : Nat} {Ls : Array Slot} {w : Value} {t : FieldType} {rest : List Value} (hret : meth.sig.returnType = some t) (ht : t.isReference = true) (hw : w.isRef = true) (hn : narrow t w = w)
    (hd : decode c.code pc = .ok (.areturn, 1)) (hc : cells ≤ CC) (hs : slots ≤ SS) (hQ : Q (some w) h locs) : Win p e below (EndsW s Q CC SS) T (mkF m pc Ls (w :: rest)) := by
  subst eT
  obtain ⟨fs, hr, hrun, hended, h1, h2, h3, h4⟩ := X.leaveW hS hk (v := some w) (fun h => by rw [hret] at h; cases h) hlk
  exact ⟨_, _, retOut X hx hret hn (Or.inr (Or.inr (Or.inr (Or.inr ⟨rfl, ht, hw⟩)))) hd hr, hrun, hended, _, _, rfl, hQ, h1, h2, h3, h4.mono hc hs⟩
/-- RoadKit's backOfSH for a callee that asks the invariant and doesn't give it back -/
theorem own_backOfSP {a0 : Array Value} {EL : List (String × Nat)} {vm0 : Vm} {y : MethodName} {bytes : ByteArray} {maxL : Nat} {ret : Option FieldType} {rm : Room} {len W : Nat} {as' : Array Value} {Q : Option Value → Heap → List Loc → Prop}
    (hM : MetFree l y (head1 [Jvm.Cond.code y bytes maxL ret] rm) (fun a U => a = as' ∧ Z.Warmed39 U.vm ∧ U.heap = h ∧ CHv Z EL U.vm h) (fun _ _ _ _ _ => True) (fun _ U o U' => ∃ v L, o = .returned v ∧ Q v U'.heap L ∧ ReturnedEndW U o U' L rm.cells rm.slots))
    (hZ : Z.Warmed39 vm0) (wc : (Jvm.Cond.code y bytes maxL ret).before a0 Z = true) (wz : (Jvm.Cond.initialized y.cls).before a0 Z = true) (hf : rm.frames + 1 ≤ R.frames) (hl : W + (maxL + 11) + rm.locals ≤ R.locals) (hEL : EW Z a0 EL) (H : CHv Z EL vm0 h) :
    BackS l R p e below (s.setVm vm0) args y len W (fun A a => a = as' ∧ A.U.heap = h ∧ A.cells + rm.cells ≤ R.cells ∧ A.slots + rm.slots ≤ R.slots)
      (fun A _ v B => ∃ L, Q v B.U.heap L ∧ B.locs = A.locs ++ L ∧ B.cells = A.cells + rm.cells ∧ B.slots = A.slots + rm.slots) :=
  BackS.of_freeW (bytes := bytes) (maxL := maxL) (ret := ret) (E := fun _ _ o t L k n => k = rm.cells ∧ n = rm.slots ∧ ∃ v, o = .returned v ∧ Q v t.heap L) hM hf hl
    (fun m meth c A a Y hp => have hU : Z.Warmed39 A.U.vm := wtrans (s := s.setVm vm0) hZ Y.warmed
      ⟨by show (Jvm.Cond.and _ .tt).before a A.U = true; rw [Cond.before_and, mv hU wc]; rfl, mv hU wc, mv hU wz, hp.2.2.1, hp.2.2.2⟩)
    (fun m meth c A a g mk Y hp => ⟨hp.1, wtrans (s := s.setVm vm0) hZ Y.warmed, hp.2.1, (CHv.at Y hZ hEL H).1⟩) (fun _ _ _ _ _ _ _ _ _ => trivial)
    (fun _ _ _ _ ⟨v, L, h1, h2, h3⟩ => ⟨L, _, _, h3, rfl, rfl, v, h1, h2⟩)
    (fun m meth c A a g mk v t L k n Y hp _ _ ⟨e1, e2, v', e3, e4⟩ => by cases e3; subst e1 e2; exact ⟨L, e4, rfl, rfl, rfl⟩)
theorem own_sta_keep {C n d : String} {v : Value} (F : Sta Z h C n d v) (K : Keep h h' []) : Sta Z h' C n d v := by
  obtain ⟨cf, i, k, f, st, cell, h1, h2, h3, h4, h5, r⟩ := F
  exact ⟨cf, i, k, f, st, cell, h1, h2, h3, h4, K.2.1 _ _ h5 nin0, r⟩
theorem own_nar_ref {u : Value} {C : String} (hu : u.isRef = true) : narrow (.object C) u = u := by rcases ref_cases hu with rfl | ⟨z, rfl⟩ <;> rfl
theorem own_fit_ref {u : Value} {C : String} (hu : u.isRef = true) : fits (.object C) u = true := by rcases ref_cases hu with rfl | ⟨z, rfl⟩ <;> rfl
theorem own_no {a0 : Array Value} {C K O : String} {n : Nat} (w : (Jvm.Cond.superclass C O).before a0 Z = true) (wo : (Jvm.Cond.noSuperclass O).before a0 Z = true) (wk : (Jvm.Cond.instantiable K n).before a0 Z = true) (h1 : C ≠ K) (h2 : O ≠ K) : ∃ c t, Z.vm.findClass C = some c ∧ Z.vm.findClass K = some t ∧ Z.vm.assignable c t = false := by
  obtain ⟨o, ko, o1, o2, o3, -, -⟩ := Cond.noSuperclass_spec wo
  obtain ⟨t, kt, t1, t2, t3, t4, -⟩ := Cond.instantiable_spec wk
  obtain ⟨c, c0⟩ := found_sup w
  obtain ⟨p, k, kp, p1, p2, p3, p4, p5, -, p7⟩ := Cond.superclass_spec c0 w
  cases o1.symm.trans p1
  have ne1 := ids_ne c0 t1 h1
  have ne2 := ids_ne o1 t1 h2
  simp only [Bool.or_eq_false_iff] at t4
  have n3 : ∀ fuel, Z.vm.isSubclassAux fuel c t = false := fun fuel => by
    match fuel with
    | 0 => rfl
    | 1 => simp [Vm.isSubclassAux, ne1, p2, p4]
    | f + 2 => simp [Vm.isSubclassAux, ne1, ne2, p2, p4, o2, o3]
  refine ⟨c, t, c0, t1, ?_⟩
  show Z.vm.assignableAux (255 + 1) c t = false
  simp [Vm.assignableAux, ne1, p2, t2, p5, t3, t4.1, Vm.isSubclass, n3]
theorem own_selp {y : MethodName} {n : Nat} (hi : (Jvm.Cond.instantiable y.cls n).before args s = true) (hp : s.PrivateAt y) (hm : (Jvm.Cond.instanceMethod y).before args s = true) (hy : y.cls ≠ "java/lang/invoke/MethodHandle" ∧ y.cls ≠ "java/lang/invoke/VarHandle") : (Jvm.Cond.selects y.cls y y).before args s = true := by
  obtain ⟨c, k, h1, h2, h3, h4, -⟩ := Cond.instantiable_spec hi
  exact selects_self_of_private h1 h2 (by simp only [Bool.or_eq_false_iff] at h4; exact h4.1) hp hm hy
end Own

/-- what Math.min | Math.max pick -/
def own_min (x y : Int32) : Int32 := if y < x then y else x
def own_max (x y : Int32) : Int32 := if x < y then y else x
/-- 1 where s <= t < e -/
def own_cov (s e t : Int32) : Int32 := if t < s then 0 else if t < e then 1 else 0
def own_ov (s1 e1 s2 e2 : Int32) : Int32 := if s1 < e2 then (if s2 < e1 then 1 else 0) else 0
def own_same (s1 e1 s2 e2 : Int32) : Int32 := if s1 = s2 then (if e1 = e2 then 1 else 0) else 0
theorem own_lsub (x y : Int32) : (x.toInt64 - y.toInt64).toInt = x.toInt - y.toInt := by
  have q := c_lsub x.toInt64 y.toInt64
  have r := rng64 (x.toInt64 - y.toInt64)
  have a := rng32 x
  have b := rng32 y
  rw [c_i2l, c_i2l] at q
  omega
theorem own_z64 : (0 : Int64).toInt = 0 := by decide
theorem own_min_toInt (x y : Int32) : (own_min x y).toInt = min x.toInt y.toInt := by
  unfold own_min
  split
  · rename_i h; rw [Int32.lt_iff_toInt_lt] at h; omega
  · rename_i h; rw [Int32.lt_iff_toInt_lt] at h; omega
theorem own_max_toInt (x y : Int32) : (own_max x y).toInt = max x.toInt y.toInt := by
  unfold own_max
  split
  · rename_i h; rw [Int32.lt_iff_toInt_lt] at h; omega
  · rename_i h; rw [Int32.lt_iff_toInt_lt] at h; omega
theorem own_covA {s e t : Int32} (h : lcmpW (t.toInt64 - s.toInt64) 0 < 0) : own_cov s e t = 0 := by
  rw [lw_lt, Int64.lt_iff_toInt_lt, own_lsub, own_z64] at h
  unfold own_cov
  rw [if_pos (by rw [Int32.lt_iff_toInt_lt]; omega)]
theorem own_covB {s e t : Int32} (h : ¬ lcmpW (t.toInt64 - s.toInt64) 0 < 0) (g : (0 : Int32) < lcmpW (e.toInt64 - t.toInt64) 0) : own_cov s e t = 1 := by
  rw [lw_lt, Int64.lt_iff_toInt_lt, own_lsub, own_z64] at h
  rw [lw_gt, Int64.lt_iff_toInt_lt, own_lsub, own_z64] at g
  unfold own_cov
  rw [if_neg (by rw [Int32.lt_iff_toInt_lt]; omega), if_pos (by rw [Int32.lt_iff_toInt_lt]; omega)]
theorem own_covC {s e t : Int32} (g : ¬ (0 : Int32) < lcmpW (e.toInt64 - t.toInt64) 0) : own_cov s e t = 0 := by
  rw [lw_gt, Int64.lt_iff_toInt_lt, own_lsub, own_z64] at g
  unfold own_cov
  split
  · rfl
  · rw [if_neg (by rw [Int32.lt_iff_toInt_lt]; omega)]
theorem own_ne_toInt {x y : Int32} (h : ¬ x = y) : x.toInt ≠ y.toInt := fun q => h (Int32.toInt_inj.mp q)
theorem own_ovT {a b c d : Int32} (h1 : ¬ a = b) (h2 : ¬ c = d) (h : own_max (own_min a b) (own_min c d) < own_min (own_max a b) (own_max c d)) : own_ov (own_min a b) (own_max a b) (own_min c d) (own_max c d) = 1 ∧ own_ov (own_min c d) (own_max c d) (own_min a b) (own_max a b) = 1 := by
  have q1 := own_ne_toInt h1
  have q2 := own_ne_toInt h2
  simp only [Int32.lt_iff_toInt_lt, own_min_toInt, own_max_toInt] at h
  unfold own_ov
  constructor
  · rw [if_pos (by simp only [Int32.lt_iff_toInt_lt, own_min_toInt, own_max_toInt]; omega), if_pos (by simp only [Int32.lt_iff_toInt_lt, own_min_toInt, own_max_toInt]; omega)]
  · rw [if_pos (by simp only [Int32.lt_iff_toInt_lt, own_min_toInt, own_max_toInt]; omega), if_pos (by simp only [Int32.lt_iff_toInt_lt, own_min_toInt, own_max_toInt]; omega)]
theorem own_ov0 {x y z w : Int32} (h : ¬ (x < w ∧ z < y)) : own_ov x y z w = 0 := by
  unfold own_ov
  split
  · split
    · rename_i p q; exact absurd ⟨p, q⟩ h
    · rfl
  · rfl
theorem own_ovF {a b c d : Int32} (h1 : ¬ a = b) (h2 : ¬ c = d) (h : ¬ own_max (own_min a b) (own_min c d) < own_min (own_max a b) (own_max c d)) : own_ov (own_min a b) (own_max a b) (own_min c d) (own_max c d) = 0 ∧ own_ov (own_min c d) (own_max c d) (own_min a b) (own_max a b) = 0 := by
  have q1 := own_ne_toInt h1
  have q2 := own_ne_toInt h2
  simp only [Int32.lt_iff_toInt_lt, own_min_toInt, own_max_toInt] at h
  constructor
  · refine own_ov0 fun q => ?_
    simp only [Int32.lt_iff_toInt_lt, own_min_toInt, own_max_toInt] at q; omega
  · refine own_ov0 fun q => ?_
    simp only [Int32.lt_iff_toInt_lt, own_min_toInt, own_max_toInt] at q; omega
theorem own_sameT {a b c d : Int32} (h1 : a = c) (h2 : b = d) : own_same a b c d = 1 := by unfold own_same; rw [if_pos h1, if_pos h2]
theorem own_sameF {a b c d : Int32} (h : ¬ (a = c ∧ b = d)) : own_same a b c d = 0 := by
  unfold own_same
  split
  · split
    · rename_i p q; exact absurd ⟨p, q⟩ h
    · rfl
  · rfl

theorem d_prog_15_method_1_0 : decode prog_15_method_1_code 0 = .ok (.aload_n 0, 1) := by decide +kernel
theorem d_prog_15_method_1_1 : decode prog_15_method_1_code 1 = .ok (.invokespecial 1, 3) := by decide +kernel
theorem d_prog_15_method_1_4 : decode prog_15_method_1_code 4 = .ok (.aload_n 0, 1) := by decide +kernel
theorem d_prog_15_method_1_5 : decode prog_15_method_1_code 5 = .ok (.iload_n 1, 1) := by decide +kernel
theorem d_prog_15_method_1_6 : decode prog_15_method_1_code 6 = .ok (.putfield 7, 3) := by decide +kernel
theorem d_prog_15_method_1_9 : decode prog_15_method_1_code 9 = .ok (.aload_n 0, 1) := by decide +kernel
theorem d_prog_15_method_1_10 : decode prog_15_method_1_code 10 = .ok (.iload_n 2, 1) := by decide +kernel
theorem d_prog_15_method_1_11 : decode prog_15_method_1_code 11 = .ok (.putfield 13, 3) := by decide +kernel
theorem d_prog_15_method_1_14 : decode prog_15_method_1_code 14 = .ok (.aload_n 0, 1) := by decide +kernel
theorem d_prog_15_method_1_15 : decode prog_15_method_1_code 15 = .ok (.iload_n 3, 1) := by decide +kernel
theorem d_prog_15_method_1_16 : decode prog_15_method_1_code 16 = .ok (.putfield 16, 3) := by decide +kernel
theorem d_prog_15_method_1_19 : decode prog_15_method_1_code 19 = .ok (.return_, 1) := by decide +kernel
theorem pn_0 : plainName "com/example/fair_question/fairquestion/match/Fit" = true := by first | (simp [plainName, overriddenIn]; done) | decide +kernel
theorem ef_fit (mt : MethodId) (a : Addr) (x1 : Int32) (x2 : Int32) (x3 : Int32) : entryFrame mt #[(.ref a), (.int x1), (.int x2), (.int x3)] 4 = mkF mt 0 #[.val (.ref a), .val (.int x1), .val (.int x2), .val (.int x3)] [] := by first | (simp [entryFrame, mkF, argsToLocals, Value.category]; done) | rfl
def Q_fit (Z : State) (a : Addr) (x1 : Int32) (x2 : Int32) (x3 : Int32) (h0 : Heap) (n0 : Nat) (v : Option Value) (h : Heap) (L : List Loc) : Prop := v = none ∧ Fr n0 L ∧ Keep h0 h [a]
set_option maxRecDepth 65536 in
set_option maxHeartbeats 40000000 in
theorem rm_fit (l : Launch) (Z : State) (a0 : Array Value) (hw : ∀ d ∈ tables_1, d.before a0 Z = true) (ws : List Jvm.Cond) (a : Addr) (x1 : Int32) (x2 : Int32) (x3 : Int32) (h0 : Heap) (n0 : Nat) (Z0 : n0 ≤ h0.size) (E : Exa Z h0 a "com/example/fair_question/fairquestion/match/Fit") (F0 : Fld Z h0 a "com/example/fair_question/fairquestion/match/Fit" "foreignNames" "I" (.int (0 : Int32))) (F1 : Fld Z h0 a "com/example/fair_question/fairquestion/match/Fit" "coveredTerms" "I" (.int (0 : Int32))) (F2 : Fld Z h0 a "com/example/fair_question/fairquestion/match/Fit" "inexactTerms" "I" (.int (0 : Int32))) (ga : n0 ≤ a) :
    MetFree l (⟨"com/example/fair_question/fairquestion/match/Fit", "<init>", "(III)V"⟩ : MethodName) (head1 (Jvm.Cond.code (⟨"com/example/fair_question/fairquestion/match/Fit", "<init>", "(III)V"⟩ : MethodName) prog_15_method_1_code 4 none :: ws) ({ frames := 1, cells := 0, slots := 0, locals := 12 } : Room)) (fun aa UU => aa = #[(.ref a), (.int x1), (.int x2), (.int x3)] ∧ Z.Warmed39 UU.vm ∧ UU.heap = h0) (fun _ _ _ _ _ => True) (fun _ UU oo UU' => ∃ vv LL, oo = .returned vv ∧ Q_fit Z a x1 x2 x3 h0 n0 vv UU'.heap LL ∧ FrameEnd UU oo UU' LL ({ frames := 1, cells := 0, slots := 0, locals := 12 } : Room).cells ({ frames := 1, cells := 0, slots := 0, locals := 12 } : Room).slots) := by
  refine MetFree.of_bodySF (plainFor_of_name pn_0) hisR ?_
  intro p e s mt args below meth cd s₁ Bd hml0 hP hK
  obtain ⟨hA, hZ, hh⟩ := hP
  have hx := Bd.exec
  have hby := Bd.bytes
  have hml : cd.maxLocals = 4 := hml0
  have hown : s.vm.findClass "com/example/fair_question/fairquestion/match/Fit" = some mt.cls := findClass_of_methodNamed Bd.named
  have hnm := (name_of_methodNamed Bd.named Bd.method).1
  have hlk : meth.locks = false := BodyLoose.notSynchronized Bd
  have hrt := Bd.returns
  have X0 : Stand p l e ({ frames := 1, cells := 0, slots := 0, locals := 12 } : Room) s mt args below meth cd s₁ [] 0 0 := Stand.of_body Bd
  have e0 : s₁.heap = h0 := by rw [← hh, Bd.state]; rfl
  have N0 := Fr.nil n0
  show Win p e below (Ends s (Q_fit Z a x1 x2 x3 h0 n0) ({ frames := 1, cells := 0, slots := 0, locals := 12 } : Room).cells ({ frames := 1, cells := 0, slots := 0, locals := 12 } : Room).slots) s₁ (entryFrame mt args 4)
  rw [hA, ef_fit]
  refine Win.st ?_ (fun tq kq => XS.aloadN X0.here hx rfl (hb hby d_prog_15_method_1_0) rfl rfl kq)
  show Win p e below _ s₁ (mkF mt 1 #[.val (.ref a), .val (.int x1), .val (.int x2), .val (.int x3)] [(.ref a)])
  obtain ⟨T11, X11, e11, st11⟩ := initO X0 hx hZ hown (hw _ (List.mem_of_getElem? (i := 34) rfl)) (hw _ (List.mem_of_getElem? (i := 18) rfl)) (hw _ (List.mem_of_getElem? (i := 19) rfl)) e0 (g := (mkF mt 1 #[.val (.ref a), .val (.int x1), .val (.int x2), .val (.int x3)] [(.ref a)])) rfl (by rw [hml]; rfl) rfl (hb hby d_prog_15_method_1_1) (by decide) (W := 0) (by show 2 * 0 + _ ≤ _; exact Nat.le_of_eq rfl) (by decide)
  refine Win.st ?_ st11
  show Win p e below _ T11 (mkF mt 4 #[.val (.ref a), .val (.int x1), .val (.int x2), .val (.int x3)] [])
  refine Win.st ?_ (fun tq kq => XS.aloadN X11.here hx rfl (hb hby d_prog_15_method_1_4) rfl rfl kq)
  show Win p e below _ T11 (mkF mt 5 #[.val (.ref a), .val (.int x1), .val (.int x2), .val (.int x3)] [(.ref a)])
  refine Win.st ?_ (fun tq kq => XS.iloadN X11.here hx rfl (hb hby d_prog_15_method_1_5) rfl kq)
  show Win p e below _ T11 (mkF mt 6 #[.val (.ref a), .val (.int x1), .val (.int x2), .val (.int x3)] [(.int x1), (.ref a)])
  obtain ⟨T12, h12, X12, e12, W12, st12⟩ := putF X11 hx hZ hown (host := "") (Or.inl (hw _ (List.mem_of_getElem? (i := 35) rfl))) Via.refl e11 F0 E (Or.inr ⟨(hw _ (List.mem_of_getElem? (i := 36) rfl)), rfl, hnm⟩) (hw _ (List.mem_of_getElem? (i := 30) rfl)) (ty := .int) (by decide) rfl rfl (g := (mkF mt 6 #[.val (.ref a), .val (.int x1), .val (.int x2), .val (.int x3)] [(.int x1), (.ref a)])) rfl rfl (hb hby d_prog_15_method_1_6)
  obtain ⟨L12, X12, N12⟩ := own_hide X12 N0 ga
  have kp12 := Keep.of_wr W12
  have fw12 := F0.same W12
  have f12_13 := F1.other W12 (Or.inr (slot_ne (Or.inr (hw _ (List.mem_of_getElem? (i := 38) rfl))) (Or.inr (hw _ (List.mem_of_getElem? (i := 36) rfl))) (by decide) (t := .int) (t' := .int) (by decide) (by decide)))
  have f12_14 := F2.other W12 (Or.inr (slot_ne (Or.inr (hw _ (List.mem_of_getElem? (i := 40) rfl))) (Or.inr (hw _ (List.mem_of_getElem? (i := 36) rfl))) (by decide) (t := .int) (t' := .int) (by decide) (by decide)))
  have f13_15 := E.keep kp12
  have Z14 : n0 ≤ h12.size := Nat.le_trans Z0 kp12.1
  have K15 : Keep h0 h12 [a] := Keep.trans (Keep.refl h0 [a]) kp12 (allS (Or.inl (List.mem_of_getElem? (i := 0) rfl)) all0)
  refine Win.st ?_ st12
  show Win p e below _ T12 (mkF mt 9 #[.val (.ref a), .val (.int x1), .val (.int x2), .val (.int x3)] [])
  refine Win.st ?_ (fun tq kq => XS.aloadN X12.here hx rfl (hb hby d_prog_15_method_1_9) rfl rfl kq)
  show Win p e below _ T12 (mkF mt 10 #[.val (.ref a), .val (.int x1), .val (.int x2), .val (.int x3)] [(.ref a)])
  refine Win.st ?_ (fun tq kq => XS.iloadN X12.here hx rfl (hb hby d_prog_15_method_1_10) rfl kq)
  show Win p e below _ T12 (mkF mt 11 #[.val (.ref a), .val (.int x1), .val (.int x2), .val (.int x3)] [(.int x2), (.ref a)])
  obtain ⟨T16, h16, X16, e16, W16, st16⟩ := putF X12 hx hZ hown (host := "") (Or.inl (hw _ (List.mem_of_getElem? (i := 37) rfl))) Via.refl e12 f12_13 f13_15 (Or.inr ⟨(hw _ (List.mem_of_getElem? (i := 38) rfl)), rfl, hnm⟩) (hw _ (List.mem_of_getElem? (i := 30) rfl)) (ty := .int) (by decide) rfl rfl (g := (mkF mt 11 #[.val (.ref a), .val (.int x1), .val (.int x2), .val (.int x3)] [(.int x2), (.ref a)])) rfl rfl (hb hby d_prog_15_method_1_11)
  obtain ⟨L16, X16, N16⟩ := own_hide X16 N12 ga
  have kp16 := Keep.of_wr W16
  have f16_27 := fw12.other W16 (Or.inr (slot_ne (Or.inr (hw _ (List.mem_of_getElem? (i := 36) rfl))) (Or.inr (hw _ (List.mem_of_getElem? (i := 38) rfl))) (by decide) (t := .int) (t' := .int) (by decide) (by decide)))
  have fw16 := f12_13.same W16
  have f16_29 := f12_14.other W16 (Or.inr (slot_ne (Or.inr (hw _ (List.mem_of_getElem? (i := 40) rfl))) (Or.inr (hw _ (List.mem_of_getElem? (i := 38) rfl))) (by decide) (t := .int) (t' := .int) (by decide) (by decide)))
  have f17_30 := f13_15.keep kp16
  have Z18 : n0 ≤ h16.size := Nat.le_trans Z14 kp16.1
  have K19 : Keep h0 h16 [a] := Keep.trans K15 kp16 (allS (Or.inl (List.mem_of_getElem? (i := 0) rfl)) all0)
  refine Win.st ?_ st16
  show Win p e below _ T16 (mkF mt 14 #[.val (.ref a), .val (.int x1), .val (.int x2), .val (.int x3)] [])
  refine Win.st ?_ (fun tq kq => XS.aloadN X16.here hx rfl (hb hby d_prog_15_method_1_14) rfl rfl kq)
  show Win p e below _ T16 (mkF mt 15 #[.val (.ref a), .val (.int x1), .val (.int x2), .val (.int x3)] [(.ref a)])
  refine Win.st ?_ (fun tq kq => XS.iloadN X16.here hx rfl (hb hby d_prog_15_method_1_15) rfl kq)
  show Win p e below _ T16 (mkF mt 16 #[.val (.ref a), .val (.int x1), .val (.int x2), .val (.int x3)] [(.int x3), (.ref a)])
  obtain ⟨T20, h20, X20, e20, W20, st20⟩ := putF X16 hx hZ hown (host := "") (Or.inl (hw _ (List.mem_of_getElem? (i := 39) rfl))) Via.refl e16 f16_29 f17_30 (Or.inr ⟨(hw _ (List.mem_of_getElem? (i := 40) rfl)), rfl, hnm⟩) (hw _ (List.mem_of_getElem? (i := 30) rfl)) (ty := .int) (by decide) rfl rfl (g := (mkF mt 16 #[.val (.ref a), .val (.int x1), .val (.int x2), .val (.int x3)] [(.int x3), (.ref a)])) rfl rfl (hb hby d_prog_15_method_1_16)
  obtain ⟨L20, X20, N20⟩ := own_hide X20 N16 ga
  have kp20 := Keep.of_wr W20
  have f20_42 := f16_27.other W20 (Or.inr (slot_ne (Or.inr (hw _ (List.mem_of_getElem? (i := 36) rfl))) (Or.inr (hw _ (List.mem_of_getElem? (i := 40) rfl))) (by decide) (t := .int) (t' := .int) (by decide) (by decide)))
  have f20_43 := fw16.other W20 (Or.inr (slot_ne (Or.inr (hw _ (List.mem_of_getElem? (i := 38) rfl))) (Or.inr (hw _ (List.mem_of_getElem? (i := 40) rfl))) (by decide) (t := .int) (t' := .int) (by decide) (by decide)))
  have fw20 := f16_29.same W20
  have f21_45 := f17_30.keep kp20
  have Z22 : n0 ≤ h20.size := Nat.le_trans Z18 kp20.1
  have K23 : Keep h0 h20 [a] := Keep.trans K19 kp20 (allS (Or.inl (List.mem_of_getElem? (i := 0) rfl)) all0)
  refine Win.st ?_ st20
  show Win p e below _ T20 (mkF mt 19 #[.val (.ref a), .val (.int x1), .val (.int x2), .val (.int x3)] [])
  exact Win.retV X20 hx hlk e20 hrt (hb hby d_prog_15_method_1_19) (by decide) (by decide) ⟨rfl, N20, K23⟩
theorem d_prog_16_method_1_0 : decode prog_16_method_1_code 0 = .ok (.aload_n 0, 1) := by decide +kernel
theorem d_prog_16_method_1_1 : decode prog_16_method_1_code 1 = .ok (.invokespecial 1, 3) := by decide +kernel
theorem d_prog_16_method_1_4 : decode prog_16_method_1_code 4 = .ok (.aload_n 0, 1) := by decide +kernel
theorem d_prog_16_method_1_5 : decode prog_16_method_1_code 5 = .ok (.aload_n 1, 1) := by decide +kernel
theorem d_prog_16_method_1_6 : decode prog_16_method_1_code 6 = .ok (.putfield 7, 3) := by decide +kernel
theorem d_prog_16_method_1_9 : decode prog_16_method_1_code 9 = .ok (.aload_n 0, 1) := by decide +kernel
theorem d_prog_16_method_1_10 : decode prog_16_method_1_code 10 = .ok (.iload_n 2, 1) := by decide +kernel
theorem d_prog_16_method_1_11 : decode prog_16_method_1_code 11 = .ok (.putfield 13, 3) := by decide +kernel
theorem d_prog_16_method_1_14 : decode prog_16_method_1_code 14 = .ok (.aload_n 0, 1) := by decide +kernel
theorem d_prog_16_method_1_15 : decode prog_16_method_1_code 15 = .ok (.iload_n 3, 1) := by decide +kernel
theorem d_prog_16_method_1_16 : decode prog_16_method_1_code 16 = .ok (.putfield 17, 3) := by decide +kernel
theorem d_prog_16_method_1_19 : decode prog_16_method_1_code 19 = .ok (.aload_n 0, 1) := by decide +kernel
theorem d_prog_16_method_1_20 : decode prog_16_method_1_code 20 = .ok (.aload 4, 2) := by decide +kernel
theorem d_prog_16_method_1_22 : decode prog_16_method_1_code 22 = .ok (.putfield 20, 3) := by decide +kernel
theorem d_prog_16_method_1_25 : decode prog_16_method_1_code 25 = .ok (.return_, 1) := by decide +kernel
theorem pn_1 : plainName "com/example/fair_question/fairquestion/match/Match" = true := by first | (simp [plainName, overriddenIn]; done) | decide +kernel
theorem ef_match (mt : MethodId) (a : Addr) (sr : Addr) (x2 : Int32) (x3 : Int32) (u : Value) (hu : u.isRef = true) : entryFrame mt #[(.ref a), (.ref sr), (.int x2), (.int x3), u] 5 = mkF mt 0 #[.val (.ref a), .val (.ref sr), .val (.int x2), .val (.int x3), .val u] [] := by rcases ref_cases hu with rfl | ⟨z, rfl⟩ <;> first | (simp [entryFrame, mkF, argsToLocals, Value.category]; done) | rfl
def Q_match (Z : State) (a : Addr) (sr : Addr) (x2 : Int32) (x3 : Int32) (u : Value) (h0 : Heap) (n0 : Nat) (v : Option Value) (h : Heap) (L : List Loc) : Prop := v = none ∧ Fr n0 L ∧ Keep h0 h [a] ∧ Fld Z h a "com/example/fair_question/fairquestion/match/Match" "start" "I" (.int x2) ∧ Fld Z h a "com/example/fair_question/fairquestion/match/Match" "end" "I" (.int x3)
set_option maxRecDepth 65536 in
set_option maxHeartbeats 40000000 in
theorem rm_match (l : Launch) (Z : State) (a0 : Array Value) (hw : ∀ d ∈ tables_1, d.before a0 Z = true) (ws : List Jvm.Cond) (a : Addr) (sr : Addr) (x2 : Int32) (x3 : Int32) (u : Value) (h0 : Heap) (n0 : Nat) (Z0 : n0 ≤ h0.size) (hu : u.isRef = true) (E : Exa Z h0 a "com/example/fair_question/fairquestion/match/Match") (F_iri : Fld Z h0 a "com/example/fair_question/fairquestion/match/Match" "iri" "Ljava/lang/String;" .null) (F_start : Fld Z h0 a "com/example/fair_question/fairquestion/match/Match" "start" "I" (.int (0 : Int32))) (F_end : Fld Z h0 a "com/example/fair_question/fairquestion/match/Match" "end" "I" (.int (0 : Int32))) (F_fit : Fld Z h0 a "com/example/fair_question/fairquestion/match/Match" "fit" "Lcom/example/fair_question/fairquestion/match/Fit;" .null) (ga : n0 ≤ a) :
    MetFree l (⟨"com/example/fair_question/fairquestion/match/Match", "<init>", "(Ljava/lang/String;IILcom/example/fair_question/fairquestion/match/Fit;)V"⟩ : MethodName) (head1 (Jvm.Cond.code (⟨"com/example/fair_question/fairquestion/match/Match", "<init>", "(Ljava/lang/String;IILcom/example/fair_question/fairquestion/match/Fit;)V"⟩ : MethodName) prog_16_method_1_code 5 none :: ws) ({ frames := 1, cells := 0, slots := 0, locals := 12 } : Room)) (fun aa UU => aa = #[(.ref a), (.ref sr), (.int x2), (.int x3), u] ∧ Z.Warmed39 UU.vm ∧ UU.heap = h0) (fun _ _ _ _ _ => True) (fun _ UU oo UU' => ∃ vv LL, oo = .returned vv ∧ Q_match Z a sr x2 x3 u h0 n0 vv UU'.heap LL ∧ FrameEnd UU oo UU' LL ({ frames := 1, cells := 0, slots := 0, locals := 12 } : Room).cells ({ frames := 1, cells := 0, slots := 0, locals := 12 } : Room).slots) := by
  refine MetFree.of_bodySF (plainFor_of_name pn_1) hisR ?_
  intro p e s mt args below meth cd s₁ Bd hml0 hP hK
  obtain ⟨hA, hZ, hh⟩ := hP
  have hx := Bd.exec
  have hby := Bd.bytes
  have hml : cd.maxLocals = 5 := hml0
  have hown : s.vm.findClass "com/example/fair_question/fairquestion/match/Match" = some mt.cls := findClass_of_methodNamed Bd.named
  have hnm := (name_of_methodNamed Bd.named Bd.method).1
  have hlk : meth.locks = false := BodyLoose.notSynchronized Bd
  have hrt := Bd.returns
  have X0 : Stand p l e ({ frames := 1, cells := 0, slots := 0, locals := 12 } : Room) s mt args below meth cd s₁ [] 0 0 := Stand.of_body Bd
  have e0 : s₁.heap = h0 := by rw [← hh, Bd.state]; rfl
  have N0 := Fr.nil n0
  show Win p e below (Ends s (Q_match Z a sr x2 x3 u h0 n0) ({ frames := 1, cells := 0, slots := 0, locals := 12 } : Room).cells ({ frames := 1, cells := 0, slots := 0, locals := 12 } : Room).slots) s₁ (entryFrame mt args 5)
  rw [hA, ef_match mt _ _ _ _ _ hu]
  refine Win.st ?_ (fun tq kq => XS.aloadN X0.here hx rfl (hb hby d_prog_16_method_1_0) rfl rfl kq)
  show Win p e below _ s₁ (mkF mt 1 #[.val (.ref a), .val (.ref sr), .val (.int x2), .val (.int x3), .val u] [(.ref a)])
  obtain ⟨T24, X24, e24, st24⟩ := initO X0 hx hZ hown (hw _ (List.mem_of_getElem? (i := 17) rfl)) (hw _ (List.mem_of_getElem? (i := 18) rfl)) (hw _ (List.mem_of_getElem? (i := 19) rfl)) e0 (g := (mkF mt 1 #[.val (.ref a), .val (.ref sr), .val (.int x2), .val (.int x3), .val u] [(.ref a)])) rfl (by rw [hml]; rfl) rfl (hb hby d_prog_16_method_1_1) (by decide) (W := 0) (by show 2 * 0 + _ ≤ _; exact Nat.le_of_eq rfl) (by decide)
  refine Win.st ?_ st24
  show Win p e below _ T24 (mkF mt 4 #[.val (.ref a), .val (.ref sr), .val (.int x2), .val (.int x3), .val u] [])
  refine Win.st ?_ (fun tq kq => XS.aloadN X24.here hx rfl (hb hby d_prog_16_method_1_4) rfl rfl kq)
  show Win p e below _ T24 (mkF mt 5 #[.val (.ref a), .val (.ref sr), .val (.int x2), .val (.int x3), .val u] [(.ref a)])
  refine Win.st ?_ (fun tq kq => XS.aloadN X24.here hx rfl (hb hby d_prog_16_method_1_5) rfl rfl kq)
  show Win p e below _ T24 (mkF mt 6 #[.val (.ref a), .val (.ref sr), .val (.int x2), .val (.int x3), .val u] [(.ref sr), (.ref a)])
  obtain ⟨T25, h25, X25, e25, W25, st25⟩ := putF X24 hx hZ hown (host := "") (Or.inl (hw _ (List.mem_of_getElem? (i := 20) rfl))) Via.refl e24 F_iri E (Or.inr ⟨(hw _ (List.mem_of_getElem? (i := 21) rfl)), rfl, hnm⟩) (hw _ (List.mem_of_getElem? (i := 1) rfl)) (ty := (.object "java/lang/String")) (by decide) rfl rfl (g := (mkF mt 6 #[.val (.ref a), .val (.ref sr), .val (.int x2), .val (.int x3), .val u] [(.ref sr), (.ref a)])) rfl rfl (hb hby d_prog_16_method_1_6)
  obtain ⟨L25, X25, N25⟩ := own_hide X25 N0 ga
  have kp25 := Keep.of_wr W25
  have fw25 := F_iri.same W25
  have f25_13 := F_start.other W25 (Or.inr (slot_ne (Or.inr (hw _ (List.mem_of_getElem? (i := 23) rfl))) (Or.inr (hw _ (List.mem_of_getElem? (i := 21) rfl))) (by decide) (t := .int) (t' := (.object "java/lang/String")) (by decide) (by decide)))
  have f25_14 := F_end.other W25 (Or.inr (slot_ne (Or.inr (hw _ (List.mem_of_getElem? (i := 25) rfl))) (Or.inr (hw _ (List.mem_of_getElem? (i := 21) rfl))) (by decide) (t := .int) (t' := (.object "java/lang/String")) (by decide) (by decide)))
  have f25_15 := F_fit.other W25 (Or.inr (slot_ne (Or.inr (hw _ (List.mem_of_getElem? (i := 27) rfl))) (Or.inr (hw _ (List.mem_of_getElem? (i := 21) rfl))) (by decide) (t := (.object "com/example/fair_question/fairquestion/match/Fit")) (t' := (.object "java/lang/String")) (by decide) (by decide)))
  have f26_16 := E.keep kp25
  have Z27 : n0 ≤ h25.size := Nat.le_trans Z0 kp25.1
  have K28 : Keep h0 h25 [a] := Keep.trans (Keep.refl h0 [a]) kp25 (allS (Or.inl (List.mem_of_getElem? (i := 0) rfl)) all0)
  refine Win.st ?_ st25
  show Win p e below _ T25 (mkF mt 9 #[.val (.ref a), .val (.ref sr), .val (.int x2), .val (.int x3), .val u] [])
  refine Win.st ?_ (fun tq kq => XS.aloadN X25.here hx rfl (hb hby d_prog_16_method_1_9) rfl rfl kq)
  show Win p e below _ T25 (mkF mt 10 #[.val (.ref a), .val (.ref sr), .val (.int x2), .val (.int x3), .val u] [(.ref a)])
  refine Win.st ?_ (fun tq kq => XS.iloadN X25.here hx rfl (hb hby d_prog_16_method_1_10) rfl kq)
  show Win p e below _ T25 (mkF mt 11 #[.val (.ref a), .val (.ref sr), .val (.int x2), .val (.int x3), .val u] [(.int x2), (.ref a)])
  obtain ⟨T29, h29, X29, e29, W29, st29⟩ := putF X25 hx hZ hown (host := "") (Or.inl (hw _ (List.mem_of_getElem? (i := 22) rfl))) Via.refl e25 f25_13 f26_16 (Or.inr ⟨(hw _ (List.mem_of_getElem? (i := 23) rfl)), rfl, hnm⟩) (hw _ (List.mem_of_getElem? (i := 1) rfl)) (ty := .int) (by decide) rfl rfl (g := (mkF mt 11 #[.val (.ref a), .val (.ref sr), .val (.int x2), .val (.int x3), .val u] [(.int x2), (.ref a)])) rfl rfl (hb hby d_prog_16_method_1_11)
  obtain ⟨L29, X29, N29⟩ := own_hide X29 N25 ga
  have kp29 := Keep.of_wr W29
  have f29_28 := fw25.other W29 (Or.inr (slot_ne (Or.inr (hw _ (List.mem_of_getElem? (i := 21) rfl))) (Or.inr (hw _ (List.mem_of_getElem? (i := 23) rfl))) (by decide) (t := (.object "java/lang/String")) (t' := .int) (by decide) (by decide)))
  have fw29 := f25_13.same W29
  have f29_30 := f25_14.other W29 (Or.inr (slot_ne (Or.inr (hw _ (List.mem_of_getElem? (i := 25) rfl))) (Or.inr (hw _ (List.mem_of_getElem? (i := 23) rfl))) (by decide) (t := .int) (t' := .int) (by decide) (by decide)))
  have f29_31 := f25_15.other W29 (Or.inr (slot_ne (Or.inr (hw _ (List.mem_of_getElem? (i := 27) rfl))) (Or.inr (hw _ (List.mem_of_getElem? (i := 23) rfl))) (by decide) (t := (.object "com/example/fair_question/fairquestion/match/Fit")) (t' := .int) (by decide) (by decide)))
  have f30_32 := f26_16.keep kp29
  have Z31 : n0 ≤ h29.size := Nat.le_trans Z27 kp29.1
  have K32 : Keep h0 h29 [a] := Keep.trans K28 kp29 (allS (Or.inl (List.mem_of_getElem? (i := 0) rfl)) all0)
  refine Win.st ?_ st29
  show Win p e below _ T29 (mkF mt 14 #[.val (.ref a), .val (.ref sr), .val (.int x2), .val (.int x3), .val u] [])
  refine Win.st ?_ (fun tq kq => XS.aloadN X29.here hx rfl (hb hby d_prog_16_method_1_14) rfl rfl kq)
  show Win p e below _ T29 (mkF mt 15 #[.val (.ref a), .val (.ref sr), .val (.int x2), .val (.int x3), .val u] [(.ref a)])
  refine Win.st ?_ (fun tq kq => XS.iloadN X29.here hx rfl (hb hby d_prog_16_method_1_15) rfl kq)
  show Win p e below _ T29 (mkF mt 16 #[.val (.ref a), .val (.ref sr), .val (.int x2), .val (.int x3), .val u] [(.int x3), (.ref a)])
  obtain ⟨T33, h33, X33, e33, W33, st33⟩ := putF X29 hx hZ hown (host := "") (Or.inl (hw _ (List.mem_of_getElem? (i := 24) rfl))) Via.refl e29 f29_30 f30_32 (Or.inr ⟨(hw _ (List.mem_of_getElem? (i := 25) rfl)), rfl, hnm⟩) (hw _ (List.mem_of_getElem? (i := 1) rfl)) (ty := .int) (by decide) rfl rfl (g := (mkF mt 16 #[.val (.ref a), .val (.ref sr), .val (.int x2), .val (.int x3), .val u] [(.int x3), (.ref a)])) rfl rfl (hb hby d_prog_16_method_1_16)
  obtain ⟨L33, X33, N33⟩ := own_hide X33 N29 ga
  have kp33 := Keep.of_wr W33
  have f33_44 := f29_28.other W33 (Or.inr (slot_ne (Or.inr (hw _ (List.mem_of_getElem? (i := 21) rfl))) (Or.inr (hw _ (List.mem_of_getElem? (i := 25) rfl))) (by decide) (t := (.object "java/lang/String")) (t' := .int) (by decide) (by decide)))
  have f33_45 := fw29.other W33 (Or.inr (slot_ne (Or.inr (hw _ (List.mem_of_getElem? (i := 23) rfl))) (Or.inr (hw _ (List.mem_of_getElem? (i := 25) rfl))) (by decide) (t := .int) (t' := .int) (by decide) (by decide)))
  have fw33 := f29_30.same W33
  have f33_47 := f29_31.other W33 (Or.inr (slot_ne (Or.inr (hw _ (List.mem_of_getElem? (i := 27) rfl))) (Or.inr (hw _ (List.mem_of_getElem? (i := 25) rfl))) (by decide) (t := (.object "com/example/fair_question/fairquestion/match/Fit")) (t' := .int) (by decide) (by decide)))
  have f34_48 := f30_32.keep kp33
  have Z35 : n0 ≤ h33.size := Nat.le_trans Z31 kp33.1
  have K36 : Keep h0 h33 [a] := Keep.trans K32 kp33 (allS (Or.inl (List.mem_of_getElem? (i := 0) rfl)) all0)
  refine Win.st ?_ st33
  show Win p e below _ T33 (mkF mt 19 #[.val (.ref a), .val (.ref sr), .val (.int x2), .val (.int x3), .val u] [])
  refine Win.st ?_ (fun tq kq => XS.aloadN X33.here hx rfl (hb hby d_prog_16_method_1_19) rfl rfl kq)
  show Win p e below _ T33 (mkF mt 20 #[.val (.ref a), .val (.ref sr), .val (.int x2), .val (.int x3), .val u] [(.ref a)])
  refine Win.st ?_ (fun tq kq => XS.aload X33.here hx rfl (hb hby d_prog_16_method_1_20) rfl hu kq)
  show Win p e below _ T33 (mkF mt 22 #[.val (.ref a), .val (.ref sr), .val (.int x2), .val (.int x3), .val u] [u, (.ref a)])
  obtain ⟨T37, h37, X37, e37, W37, st37⟩ := putF X33 hx hZ hown (host := "") (Or.inl (hw _ (List.mem_of_getElem? (i := 26) rfl))) Via.refl e33 f33_47 f34_48 (Or.inr ⟨(hw _ (List.mem_of_getElem? (i := 27) rfl)), rfl, hnm⟩) (hw _ (List.mem_of_getElem? (i := 1) rfl)) (ty := (.object "com/example/fair_question/fairquestion/match/Fit")) (by decide) (own_nar_ref hu) (own_fit_ref hu) (g := (mkF mt 22 #[.val (.ref a), .val (.ref sr), .val (.int x2), .val (.int x3), .val u] [u, (.ref a)])) rfl rfl (hb hby d_prog_16_method_1_22)
  obtain ⟨L37, X37, N37⟩ := own_hide X37 N33 ga
  have kp37 := Keep.of_wr W37
  have f37_60 := f33_44.other W37 (Or.inr (slot_ne (Or.inr (hw _ (List.mem_of_getElem? (i := 21) rfl))) (Or.inr (hw _ (List.mem_of_getElem? (i := 27) rfl))) (by decide) (t := (.object "java/lang/String")) (t' := (.object "com/example/fair_question/fairquestion/match/Fit")) (by decide) (by decide)))
  have f37_61 := f33_45.other W37 (Or.inr (slot_ne (Or.inr (hw _ (List.mem_of_getElem? (i := 23) rfl))) (Or.inr (hw _ (List.mem_of_getElem? (i := 27) rfl))) (by decide) (t := .int) (t' := (.object "com/example/fair_question/fairquestion/match/Fit")) (by decide) (by decide)))
  have f37_62 := fw33.other W37 (Or.inr (slot_ne (Or.inr (hw _ (List.mem_of_getElem? (i := 25) rfl))) (Or.inr (hw _ (List.mem_of_getElem? (i := 27) rfl))) (by decide) (t := .int) (t' := (.object "com/example/fair_question/fairquestion/match/Fit")) (by decide) (by decide)))
  have fw37 := f33_47.same W37
  have f38_64 := f34_48.keep kp37
  have Z39 : n0 ≤ h37.size := Nat.le_trans Z35 kp37.1
  have K40 : Keep h0 h37 [a] := Keep.trans K36 kp37 (allS (Or.inl (List.mem_of_getElem? (i := 0) rfl)) all0)
  refine Win.st ?_ st37
  show Win p e below _ T37 (mkF mt 25 #[.val (.ref a), .val (.ref sr), .val (.int x2), .val (.int x3), .val u] [])
  exact Win.retV X37 hx hlk e37 hrt (hb hby d_prog_16_method_1_25) (by decide) (by decide) ⟨rfl, N37, K40, f37_61, f37_62⟩
theorem d_prog_16_method_8_0 : decode prog_16_method_8_code 0 = .ok (.aload_n 0, 1) := by decide +kernel
theorem d_prog_16_method_8_1 : decode prog_16_method_8_code 1 = .ok (.getfield 13, 3) := by decide +kernel
theorem d_prog_16_method_8_4 : decode prog_16_method_8_code 4 = .ok (.aload_n 1, 1) := by decide +kernel
theorem d_prog_16_method_8_5 : decode prog_16_method_8_code 5 = .ok (.getfield 13, 3) := by decide +kernel
theorem d_prog_16_method_8_8 : decode prog_16_method_8_code 8 = .ok (.if_icmp .ne 18, 3) := by decide +kernel
theorem d_prog_16_method_8_11 : decode prog_16_method_8_code 11 = .ok (.aload_n 0, 1) := by decide +kernel
theorem d_prog_16_method_8_12 : decode prog_16_method_8_code 12 = .ok (.getfield 17, 3) := by decide +kernel
theorem d_prog_16_method_8_15 : decode prog_16_method_8_code 15 = .ok (.aload_n 1, 1) := by decide +kernel
theorem d_prog_16_method_8_16 : decode prog_16_method_8_code 16 = .ok (.getfield 17, 3) := by decide +kernel
theorem d_prog_16_method_8_19 : decode prog_16_method_8_code 19 = .ok (.if_icmp .ne 7, 3) := by decide +kernel
theorem d_prog_16_method_8_22 : decode prog_16_method_8_code 22 = .ok (.iconst 1, 1) := by decide +kernel
theorem d_prog_16_method_8_23 : decode prog_16_method_8_code 23 = .ok (.goto 4, 3) := by decide +kernel
theorem d_prog_16_method_8_27 : decode prog_16_method_8_code 27 = .ok (.ireturn, 1) := by decide +kernel
theorem d_prog_16_method_8_26 : decode prog_16_method_8_code 26 = .ok (.iconst 0, 1) := by decide +kernel
theorem ef_same (mt : MethodId) (a : Addr) (b : Addr) : entryFrame mt #[(.ref a), (.ref b)] 2 = mkF mt 0 #[.val (.ref a), .val (.ref b)] [] := by first | (simp [entryFrame, mkF, argsToLocals, Value.category]; done) | rfl
def Q_same (Z : State) (a : Addr) (b : Addr) (s1 : Int32) (e1 : Int32) (s2 : Int32) (e2 : Int32) (h0 : Heap) (n0 : Nat) (v : Option Value) (h : Heap) (L : List Loc) : Prop := v = some (.int (own_same s1 e1 s2 e2)) ∧ Fr n0 L ∧ h = h0
set_option maxRecDepth 65536 in
set_option maxHeartbeats 40000000 in
theorem rm_same (l : Launch) (Z : State) (a0 : Array Value) (hw : ∀ d ∈ tables_1, d.before a0 Z = true) (ws : List Jvm.Cond) (a : Addr) (b : Addr) (s1 : Int32) (e1 : Int32) (s2 : Int32) (e2 : Int32) (h0 : Heap) (n0 : Nat) (Z0 : n0 ≤ h0.size) (F1 : Fld Z h0 a "com/example/fair_question/fairquestion/match/Match" "start" "I" (.int s1)) (F2 : Fld Z h0 a "com/example/fair_question/fairquestion/match/Match" "end" "I" (.int e1)) (F3 : Fld Z h0 b "com/example/fair_question/fairquestion/match/Match" "start" "I" (.int s2)) (F4 : Fld Z h0 b "com/example/fair_question/fairquestion/match/Match" "end" "I" (.int e2)) :
    MetFree l (⟨"com/example/fair_question/fairquestion/match/Match", "coversSameTerms", "(Lcom/example/fair_question/fairquestion/match/Match;)Z"⟩ : MethodName) (head1 (Jvm.Cond.code (⟨"com/example/fair_question/fairquestion/match/Match", "coversSameTerms", "(Lcom/example/fair_question/fairquestion/match/Match;)Z"⟩ : MethodName) prog_16_method_8_code 2 (some .boolean) :: ws) ({ frames := 0, cells := 0, slots := 0, locals := 0 } : Room)) (fun aa UU => aa = #[(.ref a), (.ref b)] ∧ Z.Warmed39 UU.vm ∧ UU.heap = h0) (fun _ _ _ _ _ => True) (fun _ UU oo UU' => ∃ vv LL, oo = .returned vv ∧ Q_same Z a b s1 e1 s2 e2 h0 n0 vv UU'.heap LL ∧ FrameEnd UU oo UU' LL ({ frames := 0, cells := 0, slots := 0, locals := 0 } : Room).cells ({ frames := 0, cells := 0, slots := 0, locals := 0 } : Room).slots) := by
  refine MetFree.of_bodySF (plainFor_of_name pn_1) hisR ?_
  intro p e s mt args below meth cd s₁ Bd hml0 hP hK
  obtain ⟨hA, hZ, hh⟩ := hP
  have hx := Bd.exec
  have hby := Bd.bytes
  have hml : cd.maxLocals = 2 := hml0
  have hown : s.vm.findClass "com/example/fair_question/fairquestion/match/Match" = some mt.cls := findClass_of_methodNamed Bd.named
  have hnm := (name_of_methodNamed Bd.named Bd.method).1
  have hlk : meth.locks = false := BodyLoose.notSynchronized Bd
  have hrt := Bd.returns
  have X0 : Stand p l e ({ frames := 0, cells := 0, slots := 0, locals := 0 } : Room) s mt args below meth cd s₁ [] 0 0 := Stand.of_body Bd
  have e0 : s₁.heap = h0 := by rw [← hh, Bd.state]; rfl
  have N0 := Fr.nil n0
  show Win p e below (Ends s (Q_same Z a b s1 e1 s2 e2 h0 n0) ({ frames := 0, cells := 0, slots := 0, locals := 0 } : Room).cells ({ frames := 0, cells := 0, slots := 0, locals := 0 } : Room).slots) s₁ (entryFrame mt args 2)
  rw [hA, ef_same]
  refine Win.st ?_ (fun tq kq => XS.aloadN X0.here hx rfl (hb hby d_prog_16_method_8_0) rfl rfl kq)
  show Win p e below _ s₁ (mkF mt 1 #[.val (.ref a), .val (.ref b)] [(.ref a)])
  obtain ⟨T41, X41, e41, st41⟩ := getF X0 hx hZ hown (host := "") (Or.inl (hw _ (List.mem_of_getElem? (i := 22) rfl))) Via.refl e0 F1 (g := (mkF mt 1 #[.val (.ref a), .val (.ref b)] [(.ref a)])) rfl rfl (hb hby d_prog_16_method_8_1)
  refine Win.st ?_ st41
  show Win p e below _ T41 (mkF mt 4 #[.val (.ref a), .val (.ref b)] [(.int s1)])
  refine Win.st ?_ (fun tq kq => XS.aloadN X41.here hx rfl (hb hby d_prog_16_method_8_4) rfl rfl kq)
  show Win p e below _ T41 (mkF mt 5 #[.val (.ref a), .val (.ref b)] [(.ref b), (.int s1)])
  obtain ⟨T42, X42, e42, st42⟩ := getF X41 hx hZ hown (host := "") (Or.inl (hw _ (List.mem_of_getElem? (i := 22) rfl))) Via.refl e41 F3 (g := (mkF mt 5 #[.val (.ref a), .val (.ref b)] [(.ref b), (.int s1)])) rfl rfl (hb hby d_prog_16_method_8_5)
  refine Win.st ?_ st42
  show Win p e below _ T42 (mkF mt 8 #[.val (.ref a), .val (.ref b)] [(.int s2), (.int s1)])
  by_cases hc8 : s1 = s2
  · refine Win.st ?_ (fun tq kq => XS.icmpNo X42.here hx rfl (hb hby d_prog_16_method_8_8) rfl (teq hc8).2 kq)
    show Win p e below _ T42 (mkF mt 11 #[.val (.ref a), .val (.ref b)] [])
    refine Win.st ?_ (fun tq kq => XS.aloadN X42.here hx rfl (hb hby d_prog_16_method_8_11) rfl rfl kq)
    show Win p e below _ T42 (mkF mt 12 #[.val (.ref a), .val (.ref b)] [(.ref a)])
    obtain ⟨T43, X43, e43, st43⟩ := getF X42 hx hZ hown (host := "") (Or.inl (hw _ (List.mem_of_getElem? (i := 24) rfl))) Via.refl e42 F2 (g := (mkF mt 12 #[.val (.ref a), .val (.ref b)] [(.ref a)])) rfl rfl (hb hby d_prog_16_method_8_12)
    refine Win.st ?_ st43
    show Win p e below _ T43 (mkF mt 15 #[.val (.ref a), .val (.ref b)] [(.int e1)])
    refine Win.st ?_ (fun tq kq => XS.aloadN X43.here hx rfl (hb hby d_prog_16_method_8_15) rfl rfl kq)
    show Win p e below _ T43 (mkF mt 16 #[.val (.ref a), .val (.ref b)] [(.ref b), (.int e1)])
    obtain ⟨T44, X44, e44, st44⟩ := getF X43 hx hZ hown (host := "") (Or.inl (hw _ (List.mem_of_getElem? (i := 24) rfl))) Via.refl e43 F4 (g := (mkF mt 16 #[.val (.ref a), .val (.ref b)] [(.ref b), (.int e1)])) rfl rfl (hb hby d_prog_16_method_8_16)
    refine Win.st ?_ st44
    show Win p e below _ T44 (mkF mt 19 #[.val (.ref a), .val (.ref b)] [(.int e2), (.int e1)])
    by_cases hc19 : e1 = e2
    · refine Win.st ?_ (fun tq kq => XS.icmpNo X44.here hx rfl (hb hby d_prog_16_method_8_19) rfl (teq hc19).2 kq)
      show Win p e below _ T44 (mkF mt 22 #[.val (.ref a), .val (.ref b)] [])
      refine Win.st ?_ (fun tq kq => XS.iconst X44.here hx rfl (hb hby d_prog_16_method_8_22) kq)
      show Win p e below _ T44 (mkF mt 23 #[.val (.ref a), .val (.ref b)] [(.int (1 : Int32))])
      refine Win.st ?_ (fun tq kq => XS.goto X44.here hx rfl (pc0 := 23) (pc' := 27) rfl (hb hby d_prog_16_method_8_23) (by decide) (by decide) kq)
      show Win p e below _ T44 (mkF mt 27 #[.val (.ref a), .val (.ref b)] [(.int (1 : Int32))])
      exact Win.retN X44 hx hlk e44 (t := .boolean) (z' := (1 : Int32)) hrt (by simp) (hb hby d_prog_16_method_8_27) (by decide) (by decide) rfl ⟨by simp only [own_same, hc8, hc19, if_true, if_false], N0, rfl⟩
    · refine Win.st ?_ (fun tq kq => XS.icmpYes X44.here hx rfl (pc0 := 19) (pc' := 26) rfl (hb hby d_prog_16_method_8_19) rfl (feq hc19).2 (by decide) (by decide) kq)
      show Win p e below _ T44 (mkF mt 26 #[.val (.ref a), .val (.ref b)] [])
      refine Win.st ?_ (fun tq kq => XS.iconst X44.here hx rfl (hb hby d_prog_16_method_8_26) kq)
      show Win p e below _ T44 (mkF mt 27 #[.val (.ref a), .val (.ref b)] [(.int (0 : Int32))])
      exact Win.retN X44 hx hlk e44 (t := .boolean) (z' := (0 : Int32)) hrt (by simp) (hb hby d_prog_16_method_8_27) (by decide) (by decide) rfl ⟨by simp only [own_same, hc8, hc19, if_true, if_false], N0, rfl⟩
  · refine Win.st ?_ (fun tq kq => XS.icmpYes X42.here hx rfl (pc0 := 8) (pc' := 26) rfl (hb hby d_prog_16_method_8_8) rfl (feq hc8).2 (by decide) (by decide) kq)
    show Win p e below _ T42 (mkF mt 26 #[.val (.ref a), .val (.ref b)] [])
    refine Win.st ?_ (fun tq kq => XS.iconst X42.here hx rfl (hb hby d_prog_16_method_8_26) kq)
    show Win p e below _ T42 (mkF mt 27 #[.val (.ref a), .val (.ref b)] [(.int (0 : Int32))])
    exact Win.retN X42 hx hlk e42 (t := .boolean) (z' := (0 : Int32)) hrt (by simp) (hb hby d_prog_16_method_8_27) (by decide) (by decide) rfl ⟨by simp only [own_same, hc8, if_true, if_false], N0, rfl⟩
theorem own_strw {Z : State} {a0 : Array Value} (hw : ∀ d ∈ tables_1, d.before a0 Z = true) : ∀ a ∈ Bundle.stringAtoms, a.before a0 Z = true := fun d hd => by
  simp only [Bundle.stringAtoms, List.mem_cons, List.not_mem_nil, or_false] at hd
  rcases hd with rfl | rfl | rfl | rfl | rfl | rfl | rfl
  · first | exact (hw _ (List.mem_of_getElem? (i := 4) rfl)) | exact (hw _ (List.mem_of_getElem? (i := 5) rfl)) | exact (hw _ (List.mem_of_getElem? (i := 6) rfl)) | exact (hw _ (List.mem_of_getElem? (i := 7) rfl)) | exact (hw _ (List.mem_of_getElem? (i := 8) rfl)) | exact (hw _ (List.mem_of_getElem? (i := 9) rfl)) | exact (hw _ (List.mem_of_getElem? (i := 10) rfl))
  · first | exact (hw _ (List.mem_of_getElem? (i := 4) rfl)) | exact (hw _ (List.mem_of_getElem? (i := 5) rfl)) | exact (hw _ (List.mem_of_getElem? (i := 6) rfl)) | exact (hw _ (List.mem_of_getElem? (i := 7) rfl)) | exact (hw _ (List.mem_of_getElem? (i := 8) rfl)) | exact (hw _ (List.mem_of_getElem? (i := 9) rfl)) | exact (hw _ (List.mem_of_getElem? (i := 10) rfl))
  · first | exact (hw _ (List.mem_of_getElem? (i := 4) rfl)) | exact (hw _ (List.mem_of_getElem? (i := 5) rfl)) | exact (hw _ (List.mem_of_getElem? (i := 6) rfl)) | exact (hw _ (List.mem_of_getElem? (i := 7) rfl)) | exact (hw _ (List.mem_of_getElem? (i := 8) rfl)) | exact (hw _ (List.mem_of_getElem? (i := 9) rfl)) | exact (hw _ (List.mem_of_getElem? (i := 10) rfl))
  · first | exact (hw _ (List.mem_of_getElem? (i := 4) rfl)) | exact (hw _ (List.mem_of_getElem? (i := 5) rfl)) | exact (hw _ (List.mem_of_getElem? (i := 6) rfl)) | exact (hw _ (List.mem_of_getElem? (i := 7) rfl)) | exact (hw _ (List.mem_of_getElem? (i := 8) rfl)) | exact (hw _ (List.mem_of_getElem? (i := 9) rfl)) | exact (hw _ (List.mem_of_getElem? (i := 10) rfl))
  · first | exact (hw _ (List.mem_of_getElem? (i := 4) rfl)) | exact (hw _ (List.mem_of_getElem? (i := 5) rfl)) | exact (hw _ (List.mem_of_getElem? (i := 6) rfl)) | exact (hw _ (List.mem_of_getElem? (i := 7) rfl)) | exact (hw _ (List.mem_of_getElem? (i := 8) rfl)) | exact (hw _ (List.mem_of_getElem? (i := 9) rfl)) | exact (hw _ (List.mem_of_getElem? (i := 10) rfl))
  · first | exact (hw _ (List.mem_of_getElem? (i := 4) rfl)) | exact (hw _ (List.mem_of_getElem? (i := 5) rfl)) | exact (hw _ (List.mem_of_getElem? (i := 6) rfl)) | exact (hw _ (List.mem_of_getElem? (i := 7) rfl)) | exact (hw _ (List.mem_of_getElem? (i := 8) rfl)) | exact (hw _ (List.mem_of_getElem? (i := 9) rfl)) | exact (hw _ (List.mem_of_getElem? (i := 10) rfl))
  · first | exact (hw _ (List.mem_of_getElem? (i := 4) rfl)) | exact (hw _ (List.mem_of_getElem? (i := 5) rfl)) | exact (hw _ (List.mem_of_getElem? (i := 6) rfl)) | exact (hw _ (List.mem_of_getElem? (i := 7) rfl)) | exact (hw _ (List.mem_of_getElem? (i := 8) rfl)) | exact (hw _ (List.mem_of_getElem? (i := 9) rfl)) | exact (hw _ (List.mem_of_getElem? (i := 10) rfl))
theorem pd_0 : parseMethodDescriptor "(Ljava/lang/String;IILcom/example/fair_question/fairquestion/match/Fit;)V" = some ⟨[(.object "java/lang/String"), .int, .int, (.object "com/example/fair_question/fairquestion/match/Fit")], none⟩ := by decide +kernel
theorem pd_1 : parseMethodDescriptor "(III)V" = some ⟨[.int, .int, .int], none⟩ := by decide +kernel
theorem pd_2 : parseMethodDescriptor "(Lcom/example/fair_question/fairquestion/match/Match;)Z" = some ⟨[(.object "com/example/fair_question/fairquestion/match/Match")], some .boolean⟩ := by decide +kernel
theorem pn_2 : plainName "com/example/fair_question/fairquestion/match/MatchCoversSameTermsPinLaw" = true := by first | (simp [plainName, overriddenIn]; done) | decide +kernel
theorem ef_law (mt : MethodId) (s1 : Int32) (e1 : Int32) (ds : Int32) (de : Int32) (fl : Int32) : entryFrame mt #[(.int s1), (.int e1), (.int ds), (.int de), (.int fl)] maxLocals = mkF mt 0 #[.val (.int s1), .val (.int e1), .val (.int ds), .val (.int de), .val (.int fl), .unset, .unset, .unset, .unset, .unset, .unset, .unset] [] := by first | (simp [entryFrame, mkF, argsToLocals, Value.category, maxLocals]; done) | rfl
def Q_law (Z : State) (s1 : Int32) (e1 : Int32) (ds : Int32) (de : Int32) (fl : Int32) (u : Value) (h0 : Heap) (n0 : Nat) (v : Option Value) (h : Heap) (L : List Loc) : Prop := v = some (.int 1) ∧ Fr n0 L
set_option maxRecDepth 65536 in
set_option maxHeartbeats 40000000 in
theorem rm_law (l : Launch) (Z : State) (a0 : Array Value) (hw : ∀ d ∈ tables_1, d.before a0 Z = true) (ws : List Jvm.Cond) (s1 : Int32) (e1 : Int32) (ds : Int32) (de : Int32) (fl : Int32) (u : Value) (h0 : Heap) (n0 : Nat) (Z0 : n0 ≤ h0.size) (SN : Sta Z h0 "com/example/fair_question/fairquestion/match/Fit" "NONE" "Lcom/example/fair_question/fairquestion/match/Fit;" u) (hu : u.isRef = true) :
    MetFree l x (head1 (Jvm.Cond.code x code maxLocals ret :: ws) room_1) (fun aa UU => aa = #[(.int s1), (.int e1), (.int ds), (.int de), (.int fl)] ∧ Z.Warmed39 UU.vm ∧ UU.heap = h0) (fun _ _ _ _ _ => True) (fun _ UU oo UU' => ∃ vv LL, oo = .returned vv ∧ Q_law Z s1 e1 ds de fl u h0 n0 vv UU'.heap LL ∧ ReturnedEndW UU oo UU' LL 7 27) := by
  refine MetFree.of_bodySF (plainFor_of_name pn_2) hisR ?_
  intro p e s mt args below meth cd s₁ Bd hml0 hP hK
  obtain ⟨hA, hZ, hh⟩ := hP
  have hx := Bd.exec
  have hby := Bd.bytes
  have hml : cd.maxLocals = 12 := hml0
  have hown : s.vm.findClass "com/example/fair_question/fairquestion/match/MatchCoversSameTermsPinLaw" = some mt.cls := findClass_of_methodNamed Bd.named
  have hnm := (name_of_methodNamed Bd.named Bd.method).1
  have hlk : meth.locks = false := BodyLoose.notSynchronized Bd
  have hrt := Bd.returns
  have X0 : Stand p l e room_1 s mt args below meth cd s₁ [] 0 0 := Stand.of_body Bd
  have e0 : s₁.heap = h0 := by rw [← hh, Bd.state]; rfl
  have N0 := Fr.nil n0
  show Win p e below (EndsW s (Q_law Z s1 e1 ds de fl u h0 n0) 7 27) s₁ (entryFrame mt args maxLocals)
  rw [hA, ef_law]
  refine Win.st ?_ (fun tq kq => XS.iload X0.here hx rfl (hb hby at_0) rfl kq)
  show Win p e below _ s₁ (mkF mt 2 #[.val (.int s1), .val (.int e1), .val (.int ds), .val (.int de), .val (.int fl), .unset, .unset, .unset, .unset, .unset, .unset, .unset] [(.int fl)])
  refine Win.st ?_ (fun tq kq => XS.iconst X0.here hx rfl (hb hby at_2) kq)
  show Win p e below _ s₁ (mkF mt 3 #[.val (.int s1), .val (.int e1), .val (.int ds), .val (.int de), .val (.int fl), .unset, .unset, .unset, .unset, .unset, .unset, .unset] [(.int (1 : Int32)), (.int fl)])
  refine Win.st ?_ (fun tq kq => XS.iand X0.here hx rfl (hb hby at_3) rfl kq)
  show Win p e below _ s₁ (mkF mt 4 #[.val (.int s1), .val (.int e1), .val (.int ds), .val (.int de), .val (.int fl), .unset, .unset, .unset, .unset, .unset, .unset, .unset] [(.int (fl &&& (1 : Int32)))])
  have j1 : ∀ (T45 : State) (L45 : List Loc) (s2 : Int32), Stand p l e room_1 s mt args below meth cd T45 L45 0 0 → T45.heap = h0 → Fr n0 L45 → Win p e below (EndsW s (Q_law Z s1 e1 ds de fl u h0 n0) 7 27) T45 (mkF mt 14 #[.val (.int s1), .val (.int e1), .val (.int ds), .val (.int de), .val (.int fl), .val (.int s2), .unset, .unset, .unset, .unset, .unset, .unset] []) := by
    intro T45 L45 s2 X45 e45 N45
    refine Win.st ?_ (fun tq kq => XS.iload X45.here hx rfl (hb hby at_14) rfl kq)
    show Win p e below _ T45 (mkF mt 16 #[.val (.int s1), .val (.int e1), .val (.int ds), .val (.int de), .val (.int fl), .val (.int s2), .unset, .unset, .unset, .unset, .unset, .unset] [(.int fl)])
    refine Win.st ?_ (fun tq kq => XS.iconst X45.here hx rfl (hb hby at_16) kq)
    show Win p e below _ T45 (mkF mt 17 #[.val (.int s1), .val (.int e1), .val (.int ds), .val (.int de), .val (.int fl), .val (.int s2), .unset, .unset, .unset, .unset, .unset, .unset] [(.int (2 : Int32)), (.int fl)])
    refine Win.st ?_ (fun tq kq => XS.iand X45.here hx rfl (hb hby at_17) rfl kq)
    show Win p e below _ T45 (mkF mt 18 #[.val (.int s1), .val (.int e1), .val (.int ds), .val (.int de), .val (.int fl), .val (.int s2), .unset, .unset, .unset, .unset, .unset, .unset] [(.int (fl &&& (2 : Int32)))])
    have j2 : ∀ (T46 : State) (L46 : List Loc) (e2 : Int32), Stand p l e room_1 s mt args below meth cd T46 L46 0 0 → T46.heap = h0 → Fr n0 L46 → Win p e below (EndsW s (Q_law Z s1 e1 ds de fl u h0 n0) 7 27) T46 (mkF mt 28 #[.val (.int s1), .val (.int e1), .val (.int ds), .val (.int de), .val (.int fl), .val (.int s2), .val (.int e2), .unset, .unset, .unset, .unset, .unset] []) := by
      intro T46 L46 e2 X46 e46 N46
      obtain ⟨T47, h47, X47, e47, E47, A47, D47, -, st47⟩ := newO X46 hx hZ hown (hw _ (List.mem_of_getElem? (i := 0) rfl)) (hw _ (List.mem_of_getElem? (i := 1) rfl)) (hw _ (List.mem_of_getElem? (i := 2) rfl)) e46 (g := (mkF mt 28 #[.val (.int s1), .val (.int e1), .val (.int ds), .val (.int de), .val (.int fl), .val (.int s2), .val (.int e2), .unset, .unset, .unset, .unset, .unset] [])) rfl (hb hby at_28) (by decide) (by decide)
      obtain ⟨b47, gq47⟩ : ∃ z, z = h0.size := ⟨_, rfl⟩
      rw [← gq47] at A47 D47 st47
      have g48 : n0 ≤ b47 := own_newle Z0 gq47
      have ke47 := own_kext E47
      replace X47 : Stand p l e _ s mt args below meth cd T47 _ 1 4 := X47
      have f49_22 := own_sta_keep SN ke47
      have Z50 : n0 ≤ h47.size := Nat.le_trans Z0 ke47.1
      have fn47_iri : Fld Z h47 b47 "com/example/fair_question/fairquestion/match/Match" "iri" "Ljava/lang/String;" .null := D47 (Or.inr (hw _ (List.mem_of_getElem? (i := 21) rfl))) (ty := (.object "java/lang/String")) (by decide)
      have fn47_start : Fld Z h47 b47 "com/example/fair_question/fairquestion/match/Match" "start" "I" (.int (0 : Int32)) := D47 (Or.inr (hw _ (List.mem_of_getElem? (i := 23) rfl))) (ty := .int) (by decide)
      have fn47_end : Fld Z h47 b47 "com/example/fair_question/fairquestion/match/Match" "end" "I" (.int (0 : Int32)) := D47 (Or.inr (hw _ (List.mem_of_getElem? (i := 25) rfl))) (ty := .int) (by decide)
      have fn47_fit : Fld Z h47 b47 "com/example/fair_question/fairquestion/match/Match" "fit" "Lcom/example/fair_question/fairquestion/match/Fit;" .null := D47 (Or.inr (hw _ (List.mem_of_getElem? (i := 27) rfl))) (ty := (.object "com/example/fair_question/fairquestion/match/Fit")) (by decide)
      refine Win.st ?_ st47
      show Win p e below _ T47 (mkF mt 31 #[.val (.int s1), .val (.int e1), .val (.int ds), .val (.int de), .val (.int fl), .val (.int s2), .val (.int e2), .unset, .unset, .unset, .unset, .unset] [(.ref b47)])
      refine Win.st ?_ (fun tq kq => XS.dup X47.here hx rfl (hb hby at_31) rfl rfl kq)
      show Win p e below _ T47 (mkF mt 32 #[.val (.int s1), .val (.int e1), .val (.int ds), .val (.int de), .val (.int fl), .val (.int s2), .val (.int e2), .unset, .unset, .unset, .unset, .unset] [(.ref b47), (.ref b47)])
      obtain ⟨sa51, T51, h51, kk51, X51, e51, E51, hS51, hk51, hZ51, hown51, st51⟩ := ldcS (s := s) (vm0 := s.vm) X47 hx hZ hown (hw _ (List.mem_of_getElem? (i := 3) rfl)) (own_strw hw) e47 (State.WarmedH.since (State.WarmedH.refl s) 0) (Nat.zero_le _) (g := (mkF mt 32 #[.val (.int s1), .val (.int e1), .val (.int ds), .val (.int de), .val (.int fl), .val (.int s2), .val (.int e2), .unset, .unset, .unset, .unset, .unset] [(.ref b47), (.ref b47)])) rfl (hb hby at_32) (n := 4) (by decide) (by decide) (by decide) (by decide)
      replace X51 : Stand p l e _ (s.setVm T51.vm) mt args below meth cd T51 _ 3 12 := X51
      have ke51 := own_kext E51
      have f52_35 := own_sta_keep f49_22 ke51
      have f52_36 := A47.keep ke51
      have f52_37 := fn47_iri.keep ke51 nin0
      have f52_38 := fn47_start.keep ke51 nin0
      have f52_39 := fn47_end.keep ke51 nin0
      have f52_40 := fn47_fit.keep ke51 nin0
      have Z53 : n0 ≤ h51.size := Nat.le_trans Z50 ke51.1
      refine Win.st ?_ st51
      show Win p e below _ T51 (mkF mt 34 #[.val (.int s1), .val (.int e1), .val (.int ds), .val (.int de), .val (.int fl), .val (.int s2), .val (.int e2), .unset, .unset, .unset, .unset, .unset] [(.ref sa51), (.ref b47), (.ref b47)])
      refine Win.st ?_ (fun tq kq => XS.iloadN X51.here hx rfl (hb hby at_34) rfl kq)
      show Win p e below _ T51 (mkF mt 35 #[.val (.int s1), .val (.int e1), .val (.int ds), .val (.int de), .val (.int fl), .val (.int s2), .val (.int e2), .unset, .unset, .unset, .unset, .unset] [(.int s1), (.ref sa51), (.ref b47), (.ref b47)])
      refine Win.st ?_ (fun tq kq => XS.iloadN X51.here hx rfl (hb hby at_35) rfl kq)
      show Win p e below _ T51 (mkF mt 36 #[.val (.int s1), .val (.int e1), .val (.int ds), .val (.int de), .val (.int fl), .val (.int s2), .val (.int e2), .unset, .unset, .unset, .unset, .unset] [(.int e1), (.int s1), (.ref sa51), (.ref b47), (.ref b47)])
      obtain ⟨T54, X54, e54, st54⟩ := getS2 X51 hx hZ51 hown51 (host := "") (Or.inl (hw _ (List.mem_of_getElem? (i := 11) rfl))) Via.refl e51 f52_35 (g := (mkF mt 36 #[.val (.int s1), .val (.int e1), .val (.int ds), .val (.int de), .val (.int fl), .val (.int s2), .val (.int e2), .unset, .unset, .unset, .unset, .unset] [(.int e1), (.int s1), (.ref sa51), (.ref b47), (.ref b47)])) rfl (hb hby at_36)
      refine Win.st ?_ st54
      show Win p e below _ T54 (mkF mt 39 #[.val (.int s1), .val (.int e1), .val (.int ds), .val (.int de), .val (.int fl), .val (.int s2), .val (.int e2), .unset, .unset, .unset, .unset, .unset] [u, (.int e1), (.int s1), (.ref sa51), (.ref b47), (.ref b47)])
      obtain ⟨v55, _, ⟨T55, L55, k55, n55⟩, -, X55, ⟨Lc55, hQ55, l55, y55, z55⟩, st55⟩ := X54.specialBack hx (y := (⟨"com/example/fair_question/fairquestion/match/Match", "<init>", "(Ljava/lang/String;IILcom/example/fair_question/fairquestion/match/Fit;)V"⟩ : MethodName)) rfl hown51 (mvT hZ51 (hw _ (List.mem_of_getElem? (i := 14) rfl))) (mvT hZ51 (hw _ (List.mem_of_getElem? (i := 15) rfl))) (mvT hZ51 (hw _ (List.mem_of_getElem? (i := 16) rfl))) (by decide) (backOf (W := 1) (rm_match l Z a0 hw [] b47 sa51 s1 e1 u h51 n0 Z53 hu f52_36 f52_37 f52_38 f52_39 f52_40 g48) hZ51 (hw _ (List.mem_of_getElem? (i := 16) rfl)) (hw _ (List.mem_of_getElem? (i := 2) rfl)) (by decide) (by decide)) (g := (mkF mt 39 #[.val (.int s1), .val (.int e1), .val (.int ds), .val (.int de), .val (.int fl), .val (.int s2), .val (.int e2), .unset, .unset, .unset, .unset, .unset] [u, (.int e1), (.int s1), (.ref sa51), (.ref b47), (.ref b47)])) rfl (by rw [hml]; rfl) (Steps.refl _) (a := b47) (argsL := [(.ref sa51), (.int s1), (.int e1), u]) (rest := [(.ref b47)]) (lenOf pd_0 rfl) rfl (by show 2 * 0 + _ ≤ _; exact Nat.le_of_eq rfl) (hb hby at_39) (fun _ _ => ⟨rfl, e54, (by decide : 3 + 0 ≤ _), (by decide : 12 + 0 ≤ _)⟩)
      dsimp only [Pt.U, Pt.locs, Pt.cells, Pt.slots] at X55 l55 y55 z55 st55 hQ55
      subst y55 z55
      replace X55 : Stand p l e _ (s.setVm T51.vm) mt args below meth cd T55 L55 3 12 := X55
      obtain ⟨h55, e55⟩ : ∃ z, T55.heap = z := ⟨_, rfl⟩
      rw [e55] at hQ55
      obtain ⟨rfl, Nq55, K55, fs55, fe55⟩ := hQ55
      have N55 : Fr n0 L55 := by rw [l55]; exact Fr.app N46 Nq55
      have f56_59 := f52_36.keep K55
      have Z57 : n0 ≤ h55.size := Nat.le_trans Z53 K55.1
      have hk58 := Nat.le_trans hk51 K55.1
      refine Win.tr ?_ st55
      show Win p e below _ T55 (mkF mt 42 #[.val (.int s1), .val (.int e1), .val (.int ds), .val (.int de), .val (.int fl), .val (.int s2), .val (.int e2), .unset, .unset, .unset, .unset, .unset] [(.ref b47)])
      refine Win.st ?_ (fun tq kq => XS.astore X55.here hx rfl (hb hby at_42) rfl rfl (l' := #[.val (.int s1), .val (.int e1), .val (.int ds), .val (.int de), .val (.int fl), .val (.int s2), .val (.int e2), .val (.ref b47), .unset, .unset, .unset, .unset]) rfl kq)
      show Win p e below _ T55 (mkF mt 44 #[.val (.int s1), .val (.int e1), .val (.int ds), .val (.int de), .val (.int fl), .val (.int s2), .val (.int e2), .val (.ref b47), .unset, .unset, .unset, .unset] [])
      obtain ⟨T59, h59, X59, e59, E59, A59, D59, -, st59⟩ := newO X55 hx hZ51 hown51 (hw _ (List.mem_of_getElem? (i := 0) rfl)) (hw _ (List.mem_of_getElem? (i := 1) rfl)) (hw _ (List.mem_of_getElem? (i := 2) rfl)) e55 (g := (mkF mt 44 #[.val (.int s1), .val (.int e1), .val (.int ds), .val (.int de), .val (.int fl), .val (.int s2), .val (.int e2), .val (.ref b47), .unset, .unset, .unset, .unset] [])) rfl (hb hby at_44) (by decide) (by decide)
      obtain ⟨b59, gq59⟩ : ∃ z, z = h55.size := ⟨_, rfl⟩
      rw [← gq59] at A59 D59 st59
      have ne60 : b47 ≠ b59 := own_new gq59 f56_59.lt
      have g61 : n0 ≤ b59 := own_newle Z57 gq59
      have ke59 := own_kext E59
      replace X59 : Stand p l e _ (s.setVm T51.vm) mt args below meth cd T59 _ 4 16 := X59
      have f62_73 := f56_59.keep ke59
      have f62_74 := fs55.keep ke59 nin0
      have f62_75 := fe55.keep ke59 nin0
      have Z63 : n0 ≤ h59.size := Nat.le_trans Z57 ke59.1
      have hk64 := Nat.le_trans hk58 ke59.1
      have fn59_iri : Fld Z h59 b59 "com/example/fair_question/fairquestion/match/Match" "iri" "Ljava/lang/String;" .null := D59 (Or.inr (hw _ (List.mem_of_getElem? (i := 21) rfl))) (ty := (.object "java/lang/String")) (by decide)
      have fn59_start : Fld Z h59 b59 "com/example/fair_question/fairquestion/match/Match" "start" "I" (.int (0 : Int32)) := D59 (Or.inr (hw _ (List.mem_of_getElem? (i := 23) rfl))) (ty := .int) (by decide)
      have fn59_end : Fld Z h59 b59 "com/example/fair_question/fairquestion/match/Match" "end" "I" (.int (0 : Int32)) := D59 (Or.inr (hw _ (List.mem_of_getElem? (i := 25) rfl))) (ty := .int) (by decide)
      have fn59_fit : Fld Z h59 b59 "com/example/fair_question/fairquestion/match/Match" "fit" "Lcom/example/fair_question/fairquestion/match/Fit;" .null := D59 (Or.inr (hw _ (List.mem_of_getElem? (i := 27) rfl))) (ty := (.object "com/example/fair_question/fairquestion/match/Fit")) (by decide)
      refine Win.st ?_ st59
      show Win p e below _ T59 (mkF mt 47 #[.val (.int s1), .val (.int e1), .val (.int ds), .val (.int de), .val (.int fl), .val (.int s2), .val (.int e2), .val (.ref b47), .unset, .unset, .unset, .unset] [(.ref b59)])
      refine Win.st ?_ (fun tq kq => XS.dup X59.here hx rfl (hb hby at_47) rfl rfl kq)
      show Win p e below _ T59 (mkF mt 48 #[.val (.int s1), .val (.int e1), .val (.int ds), .val (.int de), .val (.int fl), .val (.int s2), .val (.int e2), .val (.ref b47), .unset, .unset, .unset, .unset] [(.ref b59), (.ref b59)])
      obtain ⟨sa65, T65, h65, kk65, X65, e65, E65, hS65, hk65, hZ65, hown65, st65⟩ := ldcS (s := s) (vm0 := T51.vm) X59 hx hZ51 hown51 (hw _ (List.mem_of_getElem? (i := 28) rfl)) (own_strw hw) e59 hS51 hk64 (g := (mkF mt 48 #[.val (.int s1), .val (.int e1), .val (.int ds), .val (.int de), .val (.int fl), .val (.int s2), .val (.int e2), .val (.ref b47), .unset, .unset, .unset, .unset] [(.ref b59), (.ref b59)])) rfl (hb hby at_48) (n := 4) (by decide) (by decide) (by decide) (by decide)
      replace X65 : Stand p l e _ (s.setVm T65.vm) mt args below meth cd T65 _ 6 24 := X65
      have ke65 := own_kext E65
      have f66_89 := f62_73.keep ke65
      have f66_90 := f62_74.keep ke65 nin0
      have f66_91 := f62_75.keep ke65 nin0
      have f66_92 := A59.keep ke65
      have f66_93 := fn59_iri.keep ke65 nin0
      have f66_94 := fn59_start.keep ke65 nin0
      have f66_95 := fn59_end.keep ke65 nin0
      have f66_96 := fn59_fit.keep ke65 nin0
      have Z67 : n0 ≤ h65.size := Nat.le_trans Z63 ke65.1
      refine Win.st ?_ st65
      show Win p e below _ T65 (mkF mt 50 #[.val (.int s1), .val (.int e1), .val (.int ds), .val (.int de), .val (.int fl), .val (.int s2), .val (.int e2), .val (.ref b47), .unset, .unset, .unset, .unset] [(.ref sa65), (.ref b59), (.ref b59)])
      refine Win.st ?_ (fun tq kq => XS.iload X65.here hx rfl (hb hby at_50) rfl kq)
      show Win p e below _ T65 (mkF mt 52 #[.val (.int s1), .val (.int e1), .val (.int ds), .val (.int de), .val (.int fl), .val (.int s2), .val (.int e2), .val (.ref b47), .unset, .unset, .unset, .unset] [(.int s2), (.ref sa65), (.ref b59), (.ref b59)])
      refine Win.st ?_ (fun tq kq => XS.iload X65.here hx rfl (hb hby at_52) rfl kq)
      show Win p e below _ T65 (mkF mt 54 #[.val (.int s1), .val (.int e1), .val (.int ds), .val (.int de), .val (.int fl), .val (.int s2), .val (.int e2), .val (.ref b47), .unset, .unset, .unset, .unset] [(.int e2), (.int s2), (.ref sa65), (.ref b59), (.ref b59)])
      obtain ⟨T68, h68, X68, e68, E68, A68, D68, -, st68⟩ := newO X65 hx hZ65 hown65 (hw _ (List.mem_of_getElem? (i := 29) rfl)) (hw _ (List.mem_of_getElem? (i := 30) rfl)) (hw _ (List.mem_of_getElem? (i := 12) rfl)) e65 (g := (mkF mt 54 #[.val (.int s1), .val (.int e1), .val (.int ds), .val (.int de), .val (.int fl), .val (.int s2), .val (.int e2), .val (.ref b47), .unset, .unset, .unset, .unset] [(.int e2), (.int s2), (.ref sa65), (.ref b59), (.ref b59)])) rfl (hb hby at_54) (by decide) (by decide)
      obtain ⟨b68, gq68⟩ : ∃ z, z = h65.size := ⟨_, rfl⟩
      rw [← gq68] at A68 D68 st68
      have ne69 : b47 ≠ b68 := own_new gq68 f66_89.lt
      have ne70 : b59 ≠ b68 := own_new gq68 f66_92.lt
      have g71 : n0 ≤ b68 := own_newle Z67 gq68
      have ke68 := own_kext E68
      replace X68 : Stand p l e _ (s.setVm T65.vm) mt args below meth cd T68 _ 7 27 := X68
      have f72_112 := f66_89.keep ke68
      have f72_113 := f66_90.keep ke68 nin0
      have f72_114 := f66_91.keep ke68 nin0
      have f72_115 := f66_92.keep ke68
      have f72_116 := f66_93.keep ke68 nin0
      have f72_117 := f66_94.keep ke68 nin0
      have f72_118 := f66_95.keep ke68 nin0
      have f72_119 := f66_96.keep ke68 nin0
      have Z73 : n0 ≤ h68.size := Nat.le_trans Z67 ke68.1
      have hk74 := Nat.le_trans hk65 ke68.1
      have fn68_foreignNames : Fld Z h68 b68 "com/example/fair_question/fairquestion/match/Fit" "foreignNames" "I" (.int (0 : Int32)) := D68 (Or.inr (hw _ (List.mem_of_getElem? (i := 36) rfl))) (ty := .int) (by decide)
      have fn68_coveredTerms : Fld Z h68 b68 "com/example/fair_question/fairquestion/match/Fit" "coveredTerms" "I" (.int (0 : Int32)) := D68 (Or.inr (hw _ (List.mem_of_getElem? (i := 38) rfl))) (ty := .int) (by decide)
      have fn68_inexactTerms : Fld Z h68 b68 "com/example/fair_question/fairquestion/match/Fit" "inexactTerms" "I" (.int (0 : Int32)) := D68 (Or.inr (hw _ (List.mem_of_getElem? (i := 40) rfl))) (ty := .int) (by decide)
      refine Win.st ?_ st68
      show Win p e below _ T68 (mkF mt 57 #[.val (.int s1), .val (.int e1), .val (.int ds), .val (.int de), .val (.int fl), .val (.int s2), .val (.int e2), .val (.ref b47), .unset, .unset, .unset, .unset] [(.ref b68), (.int e2), (.int s2), (.ref sa65), (.ref b59), (.ref b59)])
      refine Win.st ?_ (fun tq kq => XS.dup X68.here hx rfl (hb hby at_57) rfl rfl kq)
      show Win p e below _ T68 (mkF mt 58 #[.val (.int s1), .val (.int e1), .val (.int ds), .val (.int de), .val (.int fl), .val (.int s2), .val (.int e2), .val (.ref b47), .unset, .unset, .unset, .unset] [(.ref b68), (.ref b68), (.int e2), (.int s2), (.ref sa65), (.ref b59), (.ref b59)])
      refine Win.st ?_ (fun tq kq => XS.iload X68.here hx rfl (hb hby at_58) rfl kq)
      show Win p e below _ T68 (mkF mt 60 #[.val (.int s1), .val (.int e1), .val (.int ds), .val (.int de), .val (.int fl), .val (.int s2), .val (.int e2), .val (.ref b47), .unset, .unset, .unset, .unset] [(.int fl), (.ref b68), (.ref b68), (.int e2), (.int s2), (.ref sa65), (.ref b59), (.ref b59)])
      refine Win.st ?_ (fun tq kq => XS.iloadN X68.here hx rfl (hb hby at_60) rfl kq)
      show Win p e below _ T68 (mkF mt 61 #[.val (.int s1), .val (.int e1), .val (.int ds), .val (.int de), .val (.int fl), .val (.int s2), .val (.int e2), .val (.ref b47), .unset, .unset, .unset, .unset] [(.int ds), (.int fl), (.ref b68), (.ref b68), (.int e2), (.int s2), (.ref sa65), (.ref b59), (.ref b59)])
      refine Win.st ?_ (fun tq kq => XS.iloadN X68.here hx rfl (hb hby at_61) rfl kq)
      show Win p e below _ T68 (mkF mt 62 #[.val (.int s1), .val (.int e1), .val (.int ds), .val (.int de), .val (.int fl), .val (.int s2), .val (.int e2), .val (.ref b47), .unset, .unset, .unset, .unset] [(.int de), (.int ds), (.int fl), (.ref b68), (.ref b68), (.int e2), (.int s2), (.ref sa65), (.ref b59), (.ref b59)])
      obtain ⟨v75, _, ⟨T75, L75, k75, n75⟩, -, X75, ⟨Lc75, hQ75, l75, y75, z75⟩, st75⟩ := X68.specialBack hx (y := (⟨"com/example/fair_question/fairquestion/match/Fit", "<init>", "(III)V"⟩ : MethodName)) rfl hown65 (mvT hZ65 (hw _ (List.mem_of_getElem? (i := 31) rfl))) (mvT hZ65 (hw _ (List.mem_of_getElem? (i := 32) rfl))) (mvT hZ65 (hw _ (List.mem_of_getElem? (i := 33) rfl))) (by decide) (backOf (W := 6) (rm_fit l Z a0 hw [] b68 fl ds de h68 n0 Z73 A68 fn68_foreignNames fn68_coveredTerms fn68_inexactTerms g71) hZ65 (hw _ (List.mem_of_getElem? (i := 33) rfl)) (hw _ (List.mem_of_getElem? (i := 12) rfl)) (by decide) (by decide)) (g := (mkF mt 62 #[.val (.int s1), .val (.int e1), .val (.int ds), .val (.int de), .val (.int fl), .val (.int s2), .val (.int e2), .val (.ref b47), .unset, .unset, .unset, .unset] [(.int de), (.int ds), (.int fl), (.ref b68), (.ref b68), (.int e2), (.int s2), (.ref sa65), (.ref b59), (.ref b59)])) rfl (by rw [hml]; rfl) (Steps.refl _) (a := b68) (argsL := [(.int fl), (.int ds), (.int de)]) (rest := [(.ref b68), (.int e2), (.int s2), (.ref sa65), (.ref b59), (.ref b59)]) (lenOf pd_1 rfl) rfl (by show 2 * 0 + _ ≤ _; exact Nat.le_of_eq rfl) (hb hby at_62) (fun _ _ => ⟨rfl, e68, (by decide : 7 + 0 ≤ _), (by decide : 27 + 0 ≤ _)⟩)
      dsimp only [Pt.U, Pt.locs, Pt.cells, Pt.slots] at X75 l75 y75 z75 st75 hQ75
      subst y75 z75
      replace X75 : Stand p l e _ (s.setVm T65.vm) mt args below meth cd T75 L75 7 27 := X75
      obtain ⟨h75, e75⟩ : ∃ z, T75.heap = z := ⟨_, rfl⟩
      rw [e75] at hQ75
      obtain ⟨rfl, Nq75, K75⟩ := hQ75
      have N75 : Fr n0 L75 := by rw [l75]; exact Fr.app N55 Nq75
      have f76_143 := f72_112.keep K75
      have f76_144 := f72_113.keep K75 (ninS ne69 nin0)
      have f76_145 := f72_114.keep K75 (ninS ne69 nin0)
      have f76_146 := f72_115.keep K75
      have f76_147 := f72_116.keep K75 (ninS ne70 nin0)
      have f76_148 := f72_117.keep K75 (ninS ne70 nin0)
      have f76_149 := f72_118.keep K75 (ninS ne70 nin0)
      have f76_150 := f72_119.keep K75 (ninS ne70 nin0)
      have f76_151 := A68.keep K75
      have Z77 : n0 ≤ h75.size := Nat.le_trans Z73 K75.1
      have hk78 := Nat.le_trans hk74 K75.1
      refine Win.tr ?_ st75
      show Win p e below _ T75 (mkF mt 65 #[.val (.int s1), .val (.int e1), .val (.int ds), .val (.int de), .val (.int fl), .val (.int s2), .val (.int e2), .val (.ref b47), .unset, .unset, .unset, .unset] [(.ref b68), (.int e2), (.int s2), (.ref sa65), (.ref b59), (.ref b59)])
      obtain ⟨v79, _, ⟨T79, L79, k79, n79⟩, -, X79, ⟨Lc79, hQ79, l79, y79, z79⟩, st79⟩ := X75.specialBack hx (y := (⟨"com/example/fair_question/fairquestion/match/Match", "<init>", "(Ljava/lang/String;IILcom/example/fair_question/fairquestion/match/Fit;)V"⟩ : MethodName)) rfl hown65 (mvT hZ65 (hw _ (List.mem_of_getElem? (i := 14) rfl))) (mvT hZ65 (hw _ (List.mem_of_getElem? (i := 15) rfl))) (mvT hZ65 (hw _ (List.mem_of_getElem? (i := 16) rfl))) (by decide) (backOf (W := 1) (rm_match l Z a0 hw [] b59 sa65 s2 e2 (.ref b68) h75 n0 Z77 rfl f76_146 f76_147 f76_148 f76_149 f76_150 g61) hZ65 (hw _ (List.mem_of_getElem? (i := 16) rfl)) (hw _ (List.mem_of_getElem? (i := 2) rfl)) (by decide) (by decide)) (g := (mkF mt 65 #[.val (.int s1), .val (.int e1), .val (.int ds), .val (.int de), .val (.int fl), .val (.int s2), .val (.int e2), .val (.ref b47), .unset, .unset, .unset, .unset] [(.ref b68), (.int e2), (.int s2), (.ref sa65), (.ref b59), (.ref b59)])) rfl (by rw [hml]; rfl) (Steps.refl _) (a := b59) (argsL := [(.ref sa65), (.int s2), (.int e2), (.ref b68)]) (rest := [(.ref b59)]) (lenOf pd_0 rfl) rfl (by show 2 * 0 + _ ≤ _; exact Nat.le_of_eq rfl) (hb hby at_65) (fun _ _ => ⟨rfl, e75, (by decide : 7 + 0 ≤ _), (by decide : 27 + 0 ≤ _)⟩)
      dsimp only [Pt.U, Pt.locs, Pt.cells, Pt.slots] at X79 l79 y79 z79 st79 hQ79
      subst y79 z79
      replace X79 : Stand p l e _ (s.setVm T65.vm) mt args below meth cd T79 L79 7 27 := X79
      obtain ⟨h79, e79⟩ : ∃ z, T79.heap = z := ⟨_, rfl⟩
      rw [e79] at hQ79
      obtain ⟨rfl, Nq79, K79, fs79, fe79⟩ := hQ79
      have N79 : Fr n0 L79 := by rw [l79]; exact Fr.app N75 Nq79
      have f80_164 := f76_143.keep K79
      have f80_165 := f76_144.keep K79 (ninS ne60 nin0)
      have f80_166 := f76_145.keep K79 (ninS ne60 nin0)
      have f80_167 := f76_146.keep K79
      have f80_168 := f76_151.keep K79
      have Z81 : n0 ≤ h79.size := Nat.le_trans Z77 K79.1
      have hk82 := Nat.le_trans hk78 K79.1
      refine Win.tr ?_ st79
      show Win p e below _ T79 (mkF mt 68 #[.val (.int s1), .val (.int e1), .val (.int ds), .val (.int de), .val (.int fl), .val (.int s2), .val (.int e2), .val (.ref b47), .unset, .unset, .unset, .unset] [(.ref b59)])
      refine Win.st ?_ (fun tq kq => XS.astore X79.here hx rfl (hb hby at_68) rfl rfl (l' := #[.val (.int s1), .val (.int e1), .val (.int ds), .val (.int de), .val (.int fl), .val (.int s2), .val (.int e2), .val (.ref b47), .val (.ref b59), .unset, .unset, .unset]) rfl kq)
      show Win p e below _ T79 (mkF mt 70 #[.val (.int s1), .val (.int e1), .val (.int ds), .val (.int de), .val (.int fl), .val (.int s2), .val (.int e2), .val (.ref b47), .val (.ref b59), .unset, .unset, .unset] [])
      refine Win.st ?_ (fun tq kq => XS.iloadN X79.here hx rfl (hb hby at_70) rfl kq)
      show Win p e below _ T79 (mkF mt 71 #[.val (.int s1), .val (.int e1), .val (.int ds), .val (.int de), .val (.int fl), .val (.int s2), .val (.int e2), .val (.ref b47), .val (.ref b59), .unset, .unset, .unset] [(.int s1)])
      refine Win.st ?_ (fun tq kq => XS.iload X79.here hx rfl (hb hby at_71) rfl kq)
      show Win p e below _ T79 (mkF mt 73 #[.val (.int s1), .val (.int e1), .val (.int ds), .val (.int de), .val (.int fl), .val (.int s2), .val (.int e2), .val (.ref b47), .val (.ref b59), .unset, .unset, .unset] [(.int s2), (.int s1)])
      by_cases hc73 : s1 = s2
      · refine Win.st ?_ (fun tq kq => XS.icmpNo X79.here hx rfl (hb hby at_73) rfl (teq hc73).2 kq)
        show Win p e below _ T79 (mkF mt 76 #[.val (.int s1), .val (.int e1), .val (.int ds), .val (.int de), .val (.int fl), .val (.int s2), .val (.int e2), .val (.ref b47), .val (.ref b59), .unset, .unset, .unset] [])
        refine Win.st ?_ (fun tq kq => XS.iloadN X79.here hx rfl (hb hby at_76) rfl kq)
        show Win p e below _ T79 (mkF mt 77 #[.val (.int s1), .val (.int e1), .val (.int ds), .val (.int de), .val (.int fl), .val (.int s2), .val (.int e2), .val (.ref b47), .val (.ref b59), .unset, .unset, .unset] [(.int e1)])
        refine Win.st ?_ (fun tq kq => XS.iload X79.here hx rfl (hb hby at_77) rfl kq)
        show Win p e below _ T79 (mkF mt 79 #[.val (.int s1), .val (.int e1), .val (.int ds), .val (.int de), .val (.int fl), .val (.int s2), .val (.int e2), .val (.ref b47), .val (.ref b59), .unset, .unset, .unset] [(.int e2), (.int e1)])
        by_cases hc79 : e1 = e2
        · refine Win.st ?_ (fun tq kq => XS.icmpNo X79.here hx rfl (hb hby at_79) rfl (teq hc79).2 kq)
          show Win p e below _ T79 (mkF mt 82 #[.val (.int s1), .val (.int e1), .val (.int ds), .val (.int de), .val (.int fl), .val (.int s2), .val (.int e2), .val (.ref b47), .val (.ref b59), .unset, .unset, .unset] [])
          refine Win.st ?_ (fun tq kq => XS.iconst X79.here hx rfl (hb hby at_82) kq)
          show Win p e below _ T79 (mkF mt 83 #[.val (.int s1), .val (.int e1), .val (.int ds), .val (.int de), .val (.int fl), .val (.int s2), .val (.int e2), .val (.ref b47), .val (.ref b59), .unset, .unset, .unset] [(.int (1 : Int32))])
          refine Win.st ?_ (fun tq kq => XS.goto X79.here hx rfl (pc0 := 83) (pc' := 87) rfl (hb hby at_83) (by decide) (by decide) kq)
          show Win p e below _ T79 (mkF mt 87 #[.val (.int s1), .val (.int e1), .val (.int ds), .val (.int de), .val (.int fl), .val (.int s2), .val (.int e2), .val (.ref b47), .val (.ref b59), .unset, .unset, .unset] [(.int (1 : Int32))])
          refine Win.st ?_ (fun tq kq => XS.istore X79.here hx rfl (hb hby at_87) rfl (l' := #[.val (.int s1), .val (.int e1), .val (.int ds), .val (.int de), .val (.int fl), .val (.int s2), .val (.int e2), .val (.ref b47), .val (.ref b59), .val (.int (1 : Int32)), .unset, .unset]) rfl kq)
          show Win p e below _ T79 (mkF mt 89 #[.val (.int s1), .val (.int e1), .val (.int ds), .val (.int de), .val (.int fl), .val (.int s2), .val (.int e2), .val (.ref b47), .val (.ref b59), .val (.int (1 : Int32)), .unset, .unset] [])
          refine Win.st ?_ (fun tq kq => XS.aload X79.here hx rfl (hb hby at_89) rfl rfl kq)
          show Win p e below _ T79 (mkF mt 91 #[.val (.int s1), .val (.int e1), .val (.int ds), .val (.int de), .val (.int fl), .val (.int s2), .val (.int e2), .val (.ref b47), .val (.ref b59), .val (.int (1 : Int32)), .unset, .unset] [(.ref b47)])
          refine Win.st ?_ (fun tq kq => XS.aload X79.here hx rfl (hb hby at_91) rfl rfl kq)
          show Win p e below _ T79 (mkF mt 93 #[.val (.int s1), .val (.int e1), .val (.int ds), .val (.int de), .val (.int fl), .val (.int s2), .val (.int e2), .val (.ref b47), .val (.ref b59), .val (.int (1 : Int32)), .unset, .unset] [(.ref b59), (.ref b47)])
          obtain ⟨cq83, kq83, q83a, q83b, q83c⟩ := isOf hZ65 e79 f80_164
          obtain ⟨v83, _, ⟨T83, L83, k83, n83⟩, -, X83, ⟨Lc83, hQ83, l83, y83, z83⟩, st83⟩ := X79.virtualBack hx (y := (⟨"com/example/fair_question/fairquestion/match/Match", "coversSameTerms", "(Lcom/example/fair_question/fairquestion/match/Match;)Z"⟩ : MethodName)) (z := (⟨"com/example/fair_question/fairquestion/match/Match", "coversSameTerms", "(Lcom/example/fair_question/fairquestion/match/Match;)Z"⟩ : MethodName)) hown65 (mvT hZ65 (hw _ (List.mem_of_getElem? (i := 41) rfl))) (mvT hZ65 (hw _ (List.mem_of_getElem? (i := 42) rfl))) (notFace_of_selects (args := #[]) (mvT hZ65 (hw _ (List.mem_of_getElem? (i := 44) rfl)))) (mvT hZ65 (hw _ (List.mem_of_getElem? (i := 44) rfl))) (mvT hZ65 (hw _ (List.mem_of_getElem? (i := 43) rfl))) (by decide) (backOf (W := 0) (rm_same l Z a0 hw [] b47 b59 s1 e1 s2 e2 h79 n0 Z81 f80_165 f80_166 fs79 fe79) hZ65 (hw _ (List.mem_of_getElem? (i := 45) rfl)) (hw _ (List.mem_of_getElem? (i := 2) rfl)) (by decide) (by decide)) q83a q83c (g := (mkF mt 93 #[.val (.int s1), .val (.int e1), .val (.int ds), .val (.int de), .val (.int fl), .val (.int s2), .val (.int e2), .val (.ref b47), .val (.ref b59), .val (.int (1 : Int32)), .unset, .unset] [(.ref b59), (.ref b47)])) rfl (by rw [hml]; rfl) (Steps.refl _) (argsL := [(.ref b59)]) (rest := []) (lenOf pd_2 rfl) rfl (by show 2 * 0 + _ ≤ _; exact Nat.le_of_eq rfl) (hb hby at_93) (fun _ _ => ⟨rfl, e79, (by decide : 7 + 0 ≤ _), (by decide : 27 + 0 ≤ _)⟩)
          dsimp only [Pt.U, Pt.locs, Pt.cells, Pt.slots] at X83 l83 y83 z83 st83 hQ83
          subst y83 z83
          replace X83 : Stand p l e _ (s.setVm T65.vm) mt args below meth cd T83 L83 7 27 := X83
          obtain ⟨h83, e83⟩ : ∃ z, T83.heap = z := ⟨_, rfl⟩
          rw [e83] at hQ83
          obtain ⟨rfl, Nq83, eh83⟩ := hQ83
          have N83 : Fr n0 L83 := by rw [l83]; exact Fr.app N79 Nq83
          rw [eh83] at e83
          refine Win.tr ?_ st83
          show Win p e below _ T83 (mkF mt 96 #[.val (.int s1), .val (.int e1), .val (.int ds), .val (.int de), .val (.int fl), .val (.int s2), .val (.int e2), .val (.ref b47), .val (.ref b59), .val (.int (1 : Int32)), .unset, .unset] [(.int (own_same s1 e1 s2 e2))])
          refine Win.st ?_ (fun tq kq => XS.istore X83.here hx rfl (hb hby at_96) rfl (l' := #[.val (.int s1), .val (.int e1), .val (.int ds), .val (.int de), .val (.int fl), .val (.int s2), .val (.int e2), .val (.ref b47), .val (.ref b59), .val (.int (1 : Int32)), .val (.int (own_same s1 e1 s2 e2)), .unset]) rfl kq)
          show Win p e below _ T83 (mkF mt 98 #[.val (.int s1), .val (.int e1), .val (.int ds), .val (.int de), .val (.int fl), .val (.int s2), .val (.int e2), .val (.ref b47), .val (.ref b59), .val (.int (1 : Int32)), .val (.int (own_same s1 e1 s2 e2)), .unset] [])
          refine Win.st ?_ (fun tq kq => XS.aload X83.here hx rfl (hb hby at_98) rfl rfl kq)
          show Win p e below _ T83 (mkF mt 100 #[.val (.int s1), .val (.int e1), .val (.int ds), .val (.int de), .val (.int fl), .val (.int s2), .val (.int e2), .val (.ref b47), .val (.ref b59), .val (.int (1 : Int32)), .val (.int (own_same s1 e1 s2 e2)), .unset] [(.ref b59)])
          refine Win.st ?_ (fun tq kq => XS.aload X83.here hx rfl (hb hby at_100) rfl rfl kq)
          show Win p e below _ T83 (mkF mt 102 #[.val (.int s1), .val (.int e1), .val (.int ds), .val (.int de), .val (.int fl), .val (.int s2), .val (.int e2), .val (.ref b47), .val (.ref b59), .val (.int (1 : Int32)), .val (.int (own_same s1 e1 s2 e2)), .unset] [(.ref b47), (.ref b59)])
          obtain ⟨cq84, kq84, q84a, q84b, q84c⟩ := isOf hZ65 e83 f80_167
          obtain ⟨v84, _, ⟨T84, L84, k84, n84⟩, -, X84, ⟨Lc84, hQ84, l84, y84, z84⟩, st84⟩ := X83.virtualBack hx (y := (⟨"com/example/fair_question/fairquestion/match/Match", "coversSameTerms", "(Lcom/example/fair_question/fairquestion/match/Match;)Z"⟩ : MethodName)) (z := (⟨"com/example/fair_question/fairquestion/match/Match", "coversSameTerms", "(Lcom/example/fair_question/fairquestion/match/Match;)Z"⟩ : MethodName)) hown65 (mvT hZ65 (hw _ (List.mem_of_getElem? (i := 41) rfl))) (mvT hZ65 (hw _ (List.mem_of_getElem? (i := 42) rfl))) (notFace_of_selects (args := #[]) (mvT hZ65 (hw _ (List.mem_of_getElem? (i := 44) rfl)))) (mvT hZ65 (hw _ (List.mem_of_getElem? (i := 44) rfl))) (mvT hZ65 (hw _ (List.mem_of_getElem? (i := 43) rfl))) (by decide) (backOf (W := 0) (rm_same l Z a0 hw [] b59 b47 s2 e2 s1 e1 h79 n0 Z81 fs79 fe79 f80_165 f80_166) hZ65 (hw _ (List.mem_of_getElem? (i := 45) rfl)) (hw _ (List.mem_of_getElem? (i := 2) rfl)) (by decide) (by decide)) q84a q84c (g := (mkF mt 102 #[.val (.int s1), .val (.int e1), .val (.int ds), .val (.int de), .val (.int fl), .val (.int s2), .val (.int e2), .val (.ref b47), .val (.ref b59), .val (.int (1 : Int32)), .val (.int (own_same s1 e1 s2 e2)), .unset] [(.ref b47), (.ref b59)])) rfl (by rw [hml]; rfl) (Steps.refl _) (argsL := [(.ref b47)]) (rest := []) (lenOf pd_2 rfl) rfl (by show 2 * 0 + _ ≤ _; exact Nat.le_of_eq rfl) (hb hby at_102) (fun _ _ => ⟨rfl, e83, (by decide : 7 + 0 ≤ _), (by decide : 27 + 0 ≤ _)⟩)
          dsimp only [Pt.U, Pt.locs, Pt.cells, Pt.slots] at X84 l84 y84 z84 st84 hQ84
          subst y84 z84
          replace X84 : Stand p l e _ (s.setVm T65.vm) mt args below meth cd T84 L84 7 27 := X84
          obtain ⟨h84, e84⟩ : ∃ z, T84.heap = z := ⟨_, rfl⟩
          rw [e84] at hQ84
          obtain ⟨rfl, Nq84, eh84⟩ := hQ84
          have N84 : Fr n0 L84 := by rw [l84]; exact Fr.app N83 Nq84
          rw [eh84] at e84
          refine Win.tr ?_ st84
          show Win p e below _ T84 (mkF mt 105 #[.val (.int s1), .val (.int e1), .val (.int ds), .val (.int de), .val (.int fl), .val (.int s2), .val (.int e2), .val (.ref b47), .val (.ref b59), .val (.int (1 : Int32)), .val (.int (own_same s1 e1 s2 e2)), .unset] [(.int (own_same s2 e2 s1 e1))])
          refine Win.st ?_ (fun tq kq => XS.istore X84.here hx rfl (hb hby at_105) rfl (l' := #[.val (.int s1), .val (.int e1), .val (.int ds), .val (.int de), .val (.int fl), .val (.int s2), .val (.int e2), .val (.ref b47), .val (.ref b59), .val (.int (1 : Int32)), .val (.int (own_same s1 e1 s2 e2)), .val (.int (own_same s2 e2 s1 e1))]) rfl kq)
          show Win p e below _ T84 (mkF mt 107 #[.val (.int s1), .val (.int e1), .val (.int ds), .val (.int de), .val (.int fl), .val (.int s2), .val (.int e2), .val (.ref b47), .val (.ref b59), .val (.int (1 : Int32)), .val (.int (own_same s1 e1 s2 e2)), .val (.int (own_same s2 e2 s1 e1))] [])
          refine Win.st ?_ (fun tq kq => XS.iload X84.here hx rfl (hb hby at_107) rfl kq)
          show Win p e below _ T84 (mkF mt 109 #[.val (.int s1), .val (.int e1), .val (.int ds), .val (.int de), .val (.int fl), .val (.int s2), .val (.int e2), .val (.ref b47), .val (.ref b59), .val (.int (1 : Int32)), .val (.int (own_same s1 e1 s2 e2)), .val (.int (own_same s2 e2 s1 e1))] [(.int (own_same s1 e1 s2 e2))])
          refine Win.st ?_ (fun tq kq => XS.iload X84.here hx rfl (hb hby at_109) rfl kq)
          show Win p e below _ T84 (mkF mt 111 #[.val (.int s1), .val (.int e1), .val (.int ds), .val (.int de), .val (.int fl), .val (.int s2), .val (.int e2), .val (.ref b47), .val (.ref b59), .val (.int (1 : Int32)), .val (.int (own_same s1 e1 s2 e2)), .val (.int (own_same s2 e2 s1 e1))] [(.int (1 : Int32)), (.int (own_same s1 e1 s2 e2))])
          refine Win.st ?_ (fun tq kq => XS.icmpNo X84.here hx rfl (hb hby at_111) rfl (teq (own_sameT hc73 hc79)).2 kq)
          show Win p e below _ T84 (mkF mt 114 #[.val (.int s1), .val (.int e1), .val (.int ds), .val (.int de), .val (.int fl), .val (.int s2), .val (.int e2), .val (.ref b47), .val (.ref b59), .val (.int (1 : Int32)), .val (.int (own_same s1 e1 s2 e2)), .val (.int (own_same s2 e2 s1 e1))] [])
          refine Win.st ?_ (fun tq kq => XS.iload X84.here hx rfl (hb hby at_114) rfl kq)
          show Win p e below _ T84 (mkF mt 116 #[.val (.int s1), .val (.int e1), .val (.int ds), .val (.int de), .val (.int fl), .val (.int s2), .val (.int e2), .val (.ref b47), .val (.ref b59), .val (.int (1 : Int32)), .val (.int (own_same s1 e1 s2 e2)), .val (.int (own_same s2 e2 s1 e1))] [(.int (own_same s2 e2 s1 e1))])
          refine Win.st ?_ (fun tq kq => XS.iload X84.here hx rfl (hb hby at_116) rfl kq)
          show Win p e below _ T84 (mkF mt 118 #[.val (.int s1), .val (.int e1), .val (.int ds), .val (.int de), .val (.int fl), .val (.int s2), .val (.int e2), .val (.ref b47), .val (.ref b59), .val (.int (1 : Int32)), .val (.int (own_same s1 e1 s2 e2)), .val (.int (own_same s2 e2 s1 e1))] [(.int (1 : Int32)), (.int (own_same s2 e2 s1 e1))])
          refine Win.st ?_ (fun tq kq => XS.icmpNo X84.here hx rfl (hb hby at_118) rfl (teq (own_sameT hc73.symm hc79.symm)).2 kq)
          show Win p e below _ T84 (mkF mt 121 #[.val (.int s1), .val (.int e1), .val (.int ds), .val (.int de), .val (.int fl), .val (.int s2), .val (.int e2), .val (.ref b47), .val (.ref b59), .val (.int (1 : Int32)), .val (.int (own_same s1 e1 s2 e2)), .val (.int (own_same s2 e2 s1 e1))] [])
          refine Win.st ?_ (fun tq kq => XS.iconst X84.here hx rfl (hb hby at_121) kq)
          show Win p e below _ T84 (mkF mt 122 #[.val (.int s1), .val (.int e1), .val (.int ds), .val (.int de), .val (.int fl), .val (.int s2), .val (.int e2), .val (.ref b47), .val (.ref b59), .val (.int (1 : Int32)), .val (.int (own_same s1 e1 s2 e2)), .val (.int (own_same s2 e2 s1 e1))] [(.int (1 : Int32))])
          refine Win.st ?_ (fun tq kq => XS.goto X84.here hx rfl (pc0 := 122) (pc' := 126) rfl (hb hby at_122) (by decide) (by decide) kq)
          show Win p e below _ T84 (mkF mt 126 #[.val (.int s1), .val (.int e1), .val (.int ds), .val (.int de), .val (.int fl), .val (.int s2), .val (.int e2), .val (.ref b47), .val (.ref b59), .val (.int (1 : Int32)), .val (.int (own_same s1 e1 s2 e2)), .val (.int (own_same s2 e2 s1 e1))] [(.int (1 : Int32))])
          exact Win.retNW (s := s) (vm₁ := T65.vm) X84 hS65 hk82 hx hlk e84 (t := .boolean) (z' := (1 : Int32)) hrt (by simp) (hb hby at_126) (by decide) (by decide) rfl ⟨rfl, N84⟩
        · refine Win.st ?_ (fun tq kq => XS.icmpYes X79.here hx rfl (pc0 := 79) (pc' := 86) rfl (hb hby at_79) rfl (feq hc79).2 (by decide) (by decide) kq)
          show Win p e below _ T79 (mkF mt 86 #[.val (.int s1), .val (.int e1), .val (.int ds), .val (.int de), .val (.int fl), .val (.int s2), .val (.int e2), .val (.ref b47), .val (.ref b59), .unset, .unset, .unset] [])
          refine Win.st ?_ (fun tq kq => XS.iconst X79.here hx rfl (hb hby at_86) kq)
          show Win p e below _ T79 (mkF mt 87 #[.val (.int s1), .val (.int e1), .val (.int ds), .val (.int de), .val (.int fl), .val (.int s2), .val (.int e2), .val (.ref b47), .val (.ref b59), .unset, .unset, .unset] [(.int (0 : Int32))])
          refine Win.st ?_ (fun tq kq => XS.istore X79.here hx rfl (hb hby at_87) rfl (l' := #[.val (.int s1), .val (.int e1), .val (.int ds), .val (.int de), .val (.int fl), .val (.int s2), .val (.int e2), .val (.ref b47), .val (.ref b59), .val (.int (0 : Int32)), .unset, .unset]) rfl kq)
          show Win p e below _ T79 (mkF mt 89 #[.val (.int s1), .val (.int e1), .val (.int ds), .val (.int de), .val (.int fl), .val (.int s2), .val (.int e2), .val (.ref b47), .val (.ref b59), .val (.int (0 : Int32)), .unset, .unset] [])
          refine Win.st ?_ (fun tq kq => XS.aload X79.here hx rfl (hb hby at_89) rfl rfl kq)
          show Win p e below _ T79 (mkF mt 91 #[.val (.int s1), .val (.int e1), .val (.int ds), .val (.int de), .val (.int fl), .val (.int s2), .val (.int e2), .val (.ref b47), .val (.ref b59), .val (.int (0 : Int32)), .unset, .unset] [(.ref b47)])
          refine Win.st ?_ (fun tq kq => XS.aload X79.here hx rfl (hb hby at_91) rfl rfl kq)
          show Win p e below _ T79 (mkF mt 93 #[.val (.int s1), .val (.int e1), .val (.int ds), .val (.int de), .val (.int fl), .val (.int s2), .val (.int e2), .val (.ref b47), .val (.ref b59), .val (.int (0 : Int32)), .unset, .unset] [(.ref b59), (.ref b47)])
          obtain ⟨cq85, kq85, q85a, q85b, q85c⟩ := isOf hZ65 e79 f80_164
          obtain ⟨v85, _, ⟨T85, L85, k85, n85⟩, -, X85, ⟨Lc85, hQ85, l85, y85, z85⟩, st85⟩ := X79.virtualBack hx (y := (⟨"com/example/fair_question/fairquestion/match/Match", "coversSameTerms", "(Lcom/example/fair_question/fairquestion/match/Match;)Z"⟩ : MethodName)) (z := (⟨"com/example/fair_question/fairquestion/match/Match", "coversSameTerms", "(Lcom/example/fair_question/fairquestion/match/Match;)Z"⟩ : MethodName)) hown65 (mvT hZ65 (hw _ (List.mem_of_getElem? (i := 41) rfl))) (mvT hZ65 (hw _ (List.mem_of_getElem? (i := 42) rfl))) (notFace_of_selects (args := #[]) (mvT hZ65 (hw _ (List.mem_of_getElem? (i := 44) rfl)))) (mvT hZ65 (hw _ (List.mem_of_getElem? (i := 44) rfl))) (mvT hZ65 (hw _ (List.mem_of_getElem? (i := 43) rfl))) (by decide) (backOf (W := 0) (rm_same l Z a0 hw [] b47 b59 s1 e1 s2 e2 h79 n0 Z81 f80_165 f80_166 fs79 fe79) hZ65 (hw _ (List.mem_of_getElem? (i := 45) rfl)) (hw _ (List.mem_of_getElem? (i := 2) rfl)) (by decide) (by decide)) q85a q85c (g := (mkF mt 93 #[.val (.int s1), .val (.int e1), .val (.int ds), .val (.int de), .val (.int fl), .val (.int s2), .val (.int e2), .val (.ref b47), .val (.ref b59), .val (.int (0 : Int32)), .unset, .unset] [(.ref b59), (.ref b47)])) rfl (by rw [hml]; rfl) (Steps.refl _) (argsL := [(.ref b59)]) (rest := []) (lenOf pd_2 rfl) rfl (by show 2 * 0 + _ ≤ _; exact Nat.le_of_eq rfl) (hb hby at_93) (fun _ _ => ⟨rfl, e79, (by decide : 7 + 0 ≤ _), (by decide : 27 + 0 ≤ _)⟩)
          dsimp only [Pt.U, Pt.locs, Pt.cells, Pt.slots] at X85 l85 y85 z85 st85 hQ85
          subst y85 z85
          replace X85 : Stand p l e _ (s.setVm T65.vm) mt args below meth cd T85 L85 7 27 := X85
          obtain ⟨h85, e85⟩ : ∃ z, T85.heap = z := ⟨_, rfl⟩
          rw [e85] at hQ85
          obtain ⟨rfl, Nq85, eh85⟩ := hQ85
          have N85 : Fr n0 L85 := by rw [l85]; exact Fr.app N79 Nq85
          rw [eh85] at e85
          refine Win.tr ?_ st85
          show Win p e below _ T85 (mkF mt 96 #[.val (.int s1), .val (.int e1), .val (.int ds), .val (.int de), .val (.int fl), .val (.int s2), .val (.int e2), .val (.ref b47), .val (.ref b59), .val (.int (0 : Int32)), .unset, .unset] [(.int (own_same s1 e1 s2 e2))])
          refine Win.st ?_ (fun tq kq => XS.istore X85.here hx rfl (hb hby at_96) rfl (l' := #[.val (.int s1), .val (.int e1), .val (.int ds), .val (.int de), .val (.int fl), .val (.int s2), .val (.int e2), .val (.ref b47), .val (.ref b59), .val (.int (0 : Int32)), .val (.int (own_same s1 e1 s2 e2)), .unset]) rfl kq)
          show Win p e below _ T85 (mkF mt 98 #[.val (.int s1), .val (.int e1), .val (.int ds), .val (.int de), .val (.int fl), .val (.int s2), .val (.int e2), .val (.ref b47), .val (.ref b59), .val (.int (0 : Int32)), .val (.int (own_same s1 e1 s2 e2)), .unset] [])
          refine Win.st ?_ (fun tq kq => XS.aload X85.here hx rfl (hb hby at_98) rfl rfl kq)
          show Win p e below _ T85 (mkF mt 100 #[.val (.int s1), .val (.int e1), .val (.int ds), .val (.int de), .val (.int fl), .val (.int s2), .val (.int e2), .val (.ref b47), .val (.ref b59), .val (.int (0 : Int32)), .val (.int (own_same s1 e1 s2 e2)), .unset] [(.ref b59)])
          refine Win.st ?_ (fun tq kq => XS.aload X85.here hx rfl (hb hby at_100) rfl rfl kq)
          show Win p e below _ T85 (mkF mt 102 #[.val (.int s1), .val (.int e1), .val (.int ds), .val (.int de), .val (.int fl), .val (.int s2), .val (.int e2), .val (.ref b47), .val (.ref b59), .val (.int (0 : Int32)), .val (.int (own_same s1 e1 s2 e2)), .unset] [(.ref b47), (.ref b59)])
          obtain ⟨cq86, kq86, q86a, q86b, q86c⟩ := isOf hZ65 e85 f80_167
          obtain ⟨v86, _, ⟨T86, L86, k86, n86⟩, -, X86, ⟨Lc86, hQ86, l86, y86, z86⟩, st86⟩ := X85.virtualBack hx (y := (⟨"com/example/fair_question/fairquestion/match/Match", "coversSameTerms", "(Lcom/example/fair_question/fairquestion/match/Match;)Z"⟩ : MethodName)) (z := (⟨"com/example/fair_question/fairquestion/match/Match", "coversSameTerms", "(Lcom/example/fair_question/fairquestion/match/Match;)Z"⟩ : MethodName)) hown65 (mvT hZ65 (hw _ (List.mem_of_getElem? (i := 41) rfl))) (mvT hZ65 (hw _ (List.mem_of_getElem? (i := 42) rfl))) (notFace_of_selects (args := #[]) (mvT hZ65 (hw _ (List.mem_of_getElem? (i := 44) rfl)))) (mvT hZ65 (hw _ (List.mem_of_getElem? (i := 44) rfl))) (mvT hZ65 (hw _ (List.mem_of_getElem? (i := 43) rfl))) (by decide) (backOf (W := 0) (rm_same l Z a0 hw [] b59 b47 s2 e2 s1 e1 h79 n0 Z81 fs79 fe79 f80_165 f80_166) hZ65 (hw _ (List.mem_of_getElem? (i := 45) rfl)) (hw _ (List.mem_of_getElem? (i := 2) rfl)) (by decide) (by decide)) q86a q86c (g := (mkF mt 102 #[.val (.int s1), .val (.int e1), .val (.int ds), .val (.int de), .val (.int fl), .val (.int s2), .val (.int e2), .val (.ref b47), .val (.ref b59), .val (.int (0 : Int32)), .val (.int (own_same s1 e1 s2 e2)), .unset] [(.ref b47), (.ref b59)])) rfl (by rw [hml]; rfl) (Steps.refl _) (argsL := [(.ref b47)]) (rest := []) (lenOf pd_2 rfl) rfl (by show 2 * 0 + _ ≤ _; exact Nat.le_of_eq rfl) (hb hby at_102) (fun _ _ => ⟨rfl, e85, (by decide : 7 + 0 ≤ _), (by decide : 27 + 0 ≤ _)⟩)
          dsimp only [Pt.U, Pt.locs, Pt.cells, Pt.slots] at X86 l86 y86 z86 st86 hQ86
          subst y86 z86
          replace X86 : Stand p l e _ (s.setVm T65.vm) mt args below meth cd T86 L86 7 27 := X86
          obtain ⟨h86, e86⟩ : ∃ z, T86.heap = z := ⟨_, rfl⟩
          rw [e86] at hQ86
          obtain ⟨rfl, Nq86, eh86⟩ := hQ86
          have N86 : Fr n0 L86 := by rw [l86]; exact Fr.app N85 Nq86
          rw [eh86] at e86
          refine Win.tr ?_ st86
          show Win p e below _ T86 (mkF mt 105 #[.val (.int s1), .val (.int e1), .val (.int ds), .val (.int de), .val (.int fl), .val (.int s2), .val (.int e2), .val (.ref b47), .val (.ref b59), .val (.int (0 : Int32)), .val (.int (own_same s1 e1 s2 e2)), .unset] [(.int (own_same s2 e2 s1 e1))])
          refine Win.st ?_ (fun tq kq => XS.istore X86.here hx rfl (hb hby at_105) rfl (l' := #[.val (.int s1), .val (.int e1), .val (.int ds), .val (.int de), .val (.int fl), .val (.int s2), .val (.int e2), .val (.ref b47), .val (.ref b59), .val (.int (0 : Int32)), .val (.int (own_same s1 e1 s2 e2)), .val (.int (own_same s2 e2 s1 e1))]) rfl kq)
          show Win p e below _ T86 (mkF mt 107 #[.val (.int s1), .val (.int e1), .val (.int ds), .val (.int de), .val (.int fl), .val (.int s2), .val (.int e2), .val (.ref b47), .val (.ref b59), .val (.int (0 : Int32)), .val (.int (own_same s1 e1 s2 e2)), .val (.int (own_same s2 e2 s1 e1))] [])
          refine Win.st ?_ (fun tq kq => XS.iload X86.here hx rfl (hb hby at_107) rfl kq)
          show Win p e below _ T86 (mkF mt 109 #[.val (.int s1), .val (.int e1), .val (.int ds), .val (.int de), .val (.int fl), .val (.int s2), .val (.int e2), .val (.ref b47), .val (.ref b59), .val (.int (0 : Int32)), .val (.int (own_same s1 e1 s2 e2)), .val (.int (own_same s2 e2 s1 e1))] [(.int (own_same s1 e1 s2 e2))])
          refine Win.st ?_ (fun tq kq => XS.iload X86.here hx rfl (hb hby at_109) rfl kq)
          show Win p e below _ T86 (mkF mt 111 #[.val (.int s1), .val (.int e1), .val (.int ds), .val (.int de), .val (.int fl), .val (.int s2), .val (.int e2), .val (.ref b47), .val (.ref b59), .val (.int (0 : Int32)), .val (.int (own_same s1 e1 s2 e2)), .val (.int (own_same s2 e2 s1 e1))] [(.int (0 : Int32)), (.int (own_same s1 e1 s2 e2))])
          refine Win.st ?_ (fun tq kq => XS.icmpNo X86.here hx rfl (hb hby at_111) rfl (teq (own_sameF fun q => hc79 q.2)).2 kq)
          show Win p e below _ T86 (mkF mt 114 #[.val (.int s1), .val (.int e1), .val (.int ds), .val (.int de), .val (.int fl), .val (.int s2), .val (.int e2), .val (.ref b47), .val (.ref b59), .val (.int (0 : Int32)), .val (.int (own_same s1 e1 s2 e2)), .val (.int (own_same s2 e2 s1 e1))] [])
          refine Win.st ?_ (fun tq kq => XS.iload X86.here hx rfl (hb hby at_114) rfl kq)
          show Win p e below _ T86 (mkF mt 116 #[.val (.int s1), .val (.int e1), .val (.int ds), .val (.int de), .val (.int fl), .val (.int s2), .val (.int e2), .val (.ref b47), .val (.ref b59), .val (.int (0 : Int32)), .val (.int (own_same s1 e1 s2 e2)), .val (.int (own_same s2 e2 s1 e1))] [(.int (own_same s2 e2 s1 e1))])
          refine Win.st ?_ (fun tq kq => XS.iload X86.here hx rfl (hb hby at_116) rfl kq)
          show Win p e below _ T86 (mkF mt 118 #[.val (.int s1), .val (.int e1), .val (.int ds), .val (.int de), .val (.int fl), .val (.int s2), .val (.int e2), .val (.ref b47), .val (.ref b59), .val (.int (0 : Int32)), .val (.int (own_same s1 e1 s2 e2)), .val (.int (own_same s2 e2 s1 e1))] [(.int (0 : Int32)), (.int (own_same s2 e2 s1 e1))])
          refine Win.st ?_ (fun tq kq => XS.icmpNo X86.here hx rfl (hb hby at_118) rfl (teq (own_sameF fun q => hc79 q.2.symm)).2 kq)
          show Win p e below _ T86 (mkF mt 121 #[.val (.int s1), .val (.int e1), .val (.int ds), .val (.int de), .val (.int fl), .val (.int s2), .val (.int e2), .val (.ref b47), .val (.ref b59), .val (.int (0 : Int32)), .val (.int (own_same s1 e1 s2 e2)), .val (.int (own_same s2 e2 s1 e1))] [])
          refine Win.st ?_ (fun tq kq => XS.iconst X86.here hx rfl (hb hby at_121) kq)
          show Win p e below _ T86 (mkF mt 122 #[.val (.int s1), .val (.int e1), .val (.int ds), .val (.int de), .val (.int fl), .val (.int s2), .val (.int e2), .val (.ref b47), .val (.ref b59), .val (.int (0 : Int32)), .val (.int (own_same s1 e1 s2 e2)), .val (.int (own_same s2 e2 s1 e1))] [(.int (1 : Int32))])
          refine Win.st ?_ (fun tq kq => XS.goto X86.here hx rfl (pc0 := 122) (pc' := 126) rfl (hb hby at_122) (by decide) (by decide) kq)
          show Win p e below _ T86 (mkF mt 126 #[.val (.int s1), .val (.int e1), .val (.int ds), .val (.int de), .val (.int fl), .val (.int s2), .val (.int e2), .val (.ref b47), .val (.ref b59), .val (.int (0 : Int32)), .val (.int (own_same s1 e1 s2 e2)), .val (.int (own_same s2 e2 s1 e1))] [(.int (1 : Int32))])
          exact Win.retNW (s := s) (vm₁ := T65.vm) X86 hS65 hk82 hx hlk e86 (t := .boolean) (z' := (1 : Int32)) hrt (by simp) (hb hby at_126) (by decide) (by decide) rfl ⟨rfl, N86⟩
      · refine Win.st ?_ (fun tq kq => XS.icmpYes X79.here hx rfl (pc0 := 73) (pc' := 86) rfl (hb hby at_73) rfl (feq hc73).2 (by decide) (by decide) kq)
        show Win p e below _ T79 (mkF mt 86 #[.val (.int s1), .val (.int e1), .val (.int ds), .val (.int de), .val (.int fl), .val (.int s2), .val (.int e2), .val (.ref b47), .val (.ref b59), .unset, .unset, .unset] [])
        refine Win.st ?_ (fun tq kq => XS.iconst X79.here hx rfl (hb hby at_86) kq)
        show Win p e below _ T79 (mkF mt 87 #[.val (.int s1), .val (.int e1), .val (.int ds), .val (.int de), .val (.int fl), .val (.int s2), .val (.int e2), .val (.ref b47), .val (.ref b59), .unset, .unset, .unset] [(.int (0 : Int32))])
        refine Win.st ?_ (fun tq kq => XS.istore X79.here hx rfl (hb hby at_87) rfl (l' := #[.val (.int s1), .val (.int e1), .val (.int ds), .val (.int de), .val (.int fl), .val (.int s2), .val (.int e2), .val (.ref b47), .val (.ref b59), .val (.int (0 : Int32)), .unset, .unset]) rfl kq)
        show Win p e below _ T79 (mkF mt 89 #[.val (.int s1), .val (.int e1), .val (.int ds), .val (.int de), .val (.int fl), .val (.int s2), .val (.int e2), .val (.ref b47), .val (.ref b59), .val (.int (0 : Int32)), .unset, .unset] [])
        refine Win.st ?_ (fun tq kq => XS.aload X79.here hx rfl (hb hby at_89) rfl rfl kq)
        show Win p e below _ T79 (mkF mt 91 #[.val (.int s1), .val (.int e1), .val (.int ds), .val (.int de), .val (.int fl), .val (.int s2), .val (.int e2), .val (.ref b47), .val (.ref b59), .val (.int (0 : Int32)), .unset, .unset] [(.ref b47)])
        refine Win.st ?_ (fun tq kq => XS.aload X79.here hx rfl (hb hby at_91) rfl rfl kq)
        show Win p e below _ T79 (mkF mt 93 #[.val (.int s1), .val (.int e1), .val (.int ds), .val (.int de), .val (.int fl), .val (.int s2), .val (.int e2), .val (.ref b47), .val (.ref b59), .val (.int (0 : Int32)), .unset, .unset] [(.ref b59), (.ref b47)])
        obtain ⟨cq87, kq87, q87a, q87b, q87c⟩ := isOf hZ65 e79 f80_164
        obtain ⟨v87, _, ⟨T87, L87, k87, n87⟩, -, X87, ⟨Lc87, hQ87, l87, y87, z87⟩, st87⟩ := X79.virtualBack hx (y := (⟨"com/example/fair_question/fairquestion/match/Match", "coversSameTerms", "(Lcom/example/fair_question/fairquestion/match/Match;)Z"⟩ : MethodName)) (z := (⟨"com/example/fair_question/fairquestion/match/Match", "coversSameTerms", "(Lcom/example/fair_question/fairquestion/match/Match;)Z"⟩ : MethodName)) hown65 (mvT hZ65 (hw _ (List.mem_of_getElem? (i := 41) rfl))) (mvT hZ65 (hw _ (List.mem_of_getElem? (i := 42) rfl))) (notFace_of_selects (args := #[]) (mvT hZ65 (hw _ (List.mem_of_getElem? (i := 44) rfl)))) (mvT hZ65 (hw _ (List.mem_of_getElem? (i := 44) rfl))) (mvT hZ65 (hw _ (List.mem_of_getElem? (i := 43) rfl))) (by decide) (backOf (W := 0) (rm_same l Z a0 hw [] b47 b59 s1 e1 s2 e2 h79 n0 Z81 f80_165 f80_166 fs79 fe79) hZ65 (hw _ (List.mem_of_getElem? (i := 45) rfl)) (hw _ (List.mem_of_getElem? (i := 2) rfl)) (by decide) (by decide)) q87a q87c (g := (mkF mt 93 #[.val (.int s1), .val (.int e1), .val (.int ds), .val (.int de), .val (.int fl), .val (.int s2), .val (.int e2), .val (.ref b47), .val (.ref b59), .val (.int (0 : Int32)), .unset, .unset] [(.ref b59), (.ref b47)])) rfl (by rw [hml]; rfl) (Steps.refl _) (argsL := [(.ref b59)]) (rest := []) (lenOf pd_2 rfl) rfl (by show 2 * 0 + _ ≤ _; exact Nat.le_of_eq rfl) (hb hby at_93) (fun _ _ => ⟨rfl, e79, (by decide : 7 + 0 ≤ _), (by decide : 27 + 0 ≤ _)⟩)
        dsimp only [Pt.U, Pt.locs, Pt.cells, Pt.slots] at X87 l87 y87 z87 st87 hQ87
        subst y87 z87
        replace X87 : Stand p l e _ (s.setVm T65.vm) mt args below meth cd T87 L87 7 27 := X87
        obtain ⟨h87, e87⟩ : ∃ z, T87.heap = z := ⟨_, rfl⟩
        rw [e87] at hQ87
        obtain ⟨rfl, Nq87, eh87⟩ := hQ87
        have N87 : Fr n0 L87 := by rw [l87]; exact Fr.app N79 Nq87
        rw [eh87] at e87
        refine Win.tr ?_ st87
        show Win p e below _ T87 (mkF mt 96 #[.val (.int s1), .val (.int e1), .val (.int ds), .val (.int de), .val (.int fl), .val (.int s2), .val (.int e2), .val (.ref b47), .val (.ref b59), .val (.int (0 : Int32)), .unset, .unset] [(.int (own_same s1 e1 s2 e2))])
        refine Win.st ?_ (fun tq kq => XS.istore X87.here hx rfl (hb hby at_96) rfl (l' := #[.val (.int s1), .val (.int e1), .val (.int ds), .val (.int de), .val (.int fl), .val (.int s2), .val (.int e2), .val (.ref b47), .val (.ref b59), .val (.int (0 : Int32)), .val (.int (own_same s1 e1 s2 e2)), .unset]) rfl kq)
        show Win p e below _ T87 (mkF mt 98 #[.val (.int s1), .val (.int e1), .val (.int ds), .val (.int de), .val (.int fl), .val (.int s2), .val (.int e2), .val (.ref b47), .val (.ref b59), .val (.int (0 : Int32)), .val (.int (own_same s1 e1 s2 e2)), .unset] [])
        refine Win.st ?_ (fun tq kq => XS.aload X87.here hx rfl (hb hby at_98) rfl rfl kq)
        show Win p e below _ T87 (mkF mt 100 #[.val (.int s1), .val (.int e1), .val (.int ds), .val (.int de), .val (.int fl), .val (.int s2), .val (.int e2), .val (.ref b47), .val (.ref b59), .val (.int (0 : Int32)), .val (.int (own_same s1 e1 s2 e2)), .unset] [(.ref b59)])
        refine Win.st ?_ (fun tq kq => XS.aload X87.here hx rfl (hb hby at_100) rfl rfl kq)
        show Win p e below _ T87 (mkF mt 102 #[.val (.int s1), .val (.int e1), .val (.int ds), .val (.int de), .val (.int fl), .val (.int s2), .val (.int e2), .val (.ref b47), .val (.ref b59), .val (.int (0 : Int32)), .val (.int (own_same s1 e1 s2 e2)), .unset] [(.ref b47), (.ref b59)])
        obtain ⟨cq88, kq88, q88a, q88b, q88c⟩ := isOf hZ65 e87 f80_167
        obtain ⟨v88, _, ⟨T88, L88, k88, n88⟩, -, X88, ⟨Lc88, hQ88, l88, y88, z88⟩, st88⟩ := X87.virtualBack hx (y := (⟨"com/example/fair_question/fairquestion/match/Match", "coversSameTerms", "(Lcom/example/fair_question/fairquestion/match/Match;)Z"⟩ : MethodName)) (z := (⟨"com/example/fair_question/fairquestion/match/Match", "coversSameTerms", "(Lcom/example/fair_question/fairquestion/match/Match;)Z"⟩ : MethodName)) hown65 (mvT hZ65 (hw _ (List.mem_of_getElem? (i := 41) rfl))) (mvT hZ65 (hw _ (List.mem_of_getElem? (i := 42) rfl))) (notFace_of_selects (args := #[]) (mvT hZ65 (hw _ (List.mem_of_getElem? (i := 44) rfl)))) (mvT hZ65 (hw _ (List.mem_of_getElem? (i := 44) rfl))) (mvT hZ65 (hw _ (List.mem_of_getElem? (i := 43) rfl))) (by decide) (backOf (W := 0) (rm_same l Z a0 hw [] b59 b47 s2 e2 s1 e1 h79 n0 Z81 fs79 fe79 f80_165 f80_166) hZ65 (hw _ (List.mem_of_getElem? (i := 45) rfl)) (hw _ (List.mem_of_getElem? (i := 2) rfl)) (by decide) (by decide)) q88a q88c (g := (mkF mt 102 #[.val (.int s1), .val (.int e1), .val (.int ds), .val (.int de), .val (.int fl), .val (.int s2), .val (.int e2), .val (.ref b47), .val (.ref b59), .val (.int (0 : Int32)), .val (.int (own_same s1 e1 s2 e2)), .unset] [(.ref b47), (.ref b59)])) rfl (by rw [hml]; rfl) (Steps.refl _) (argsL := [(.ref b47)]) (rest := []) (lenOf pd_2 rfl) rfl (by show 2 * 0 + _ ≤ _; exact Nat.le_of_eq rfl) (hb hby at_102) (fun _ _ => ⟨rfl, e87, (by decide : 7 + 0 ≤ _), (by decide : 27 + 0 ≤ _)⟩)
        dsimp only [Pt.U, Pt.locs, Pt.cells, Pt.slots] at X88 l88 y88 z88 st88 hQ88
        subst y88 z88
        replace X88 : Stand p l e _ (s.setVm T65.vm) mt args below meth cd T88 L88 7 27 := X88
        obtain ⟨h88, e88⟩ : ∃ z, T88.heap = z := ⟨_, rfl⟩
        rw [e88] at hQ88
        obtain ⟨rfl, Nq88, eh88⟩ := hQ88
        have N88 : Fr n0 L88 := by rw [l88]; exact Fr.app N87 Nq88
        rw [eh88] at e88
        refine Win.tr ?_ st88
        show Win p e below _ T88 (mkF mt 105 #[.val (.int s1), .val (.int e1), .val (.int ds), .val (.int de), .val (.int fl), .val (.int s2), .val (.int e2), .val (.ref b47), .val (.ref b59), .val (.int (0 : Int32)), .val (.int (own_same s1 e1 s2 e2)), .unset] [(.int (own_same s2 e2 s1 e1))])
        refine Win.st ?_ (fun tq kq => XS.istore X88.here hx rfl (hb hby at_105) rfl (l' := #[.val (.int s1), .val (.int e1), .val (.int ds), .val (.int de), .val (.int fl), .val (.int s2), .val (.int e2), .val (.ref b47), .val (.ref b59), .val (.int (0 : Int32)), .val (.int (own_same s1 e1 s2 e2)), .val (.int (own_same s2 e2 s1 e1))]) rfl kq)
        show Win p e below _ T88 (mkF mt 107 #[.val (.int s1), .val (.int e1), .val (.int ds), .val (.int de), .val (.int fl), .val (.int s2), .val (.int e2), .val (.ref b47), .val (.ref b59), .val (.int (0 : Int32)), .val (.int (own_same s1 e1 s2 e2)), .val (.int (own_same s2 e2 s1 e1))] [])
        refine Win.st ?_ (fun tq kq => XS.iload X88.here hx rfl (hb hby at_107) rfl kq)
        show Win p e below _ T88 (mkF mt 109 #[.val (.int s1), .val (.int e1), .val (.int ds), .val (.int de), .val (.int fl), .val (.int s2), .val (.int e2), .val (.ref b47), .val (.ref b59), .val (.int (0 : Int32)), .val (.int (own_same s1 e1 s2 e2)), .val (.int (own_same s2 e2 s1 e1))] [(.int (own_same s1 e1 s2 e2))])
        refine Win.st ?_ (fun tq kq => XS.iload X88.here hx rfl (hb hby at_109) rfl kq)
        show Win p e below _ T88 (mkF mt 111 #[.val (.int s1), .val (.int e1), .val (.int ds), .val (.int de), .val (.int fl), .val (.int s2), .val (.int e2), .val (.ref b47), .val (.ref b59), .val (.int (0 : Int32)), .val (.int (own_same s1 e1 s2 e2)), .val (.int (own_same s2 e2 s1 e1))] [(.int (0 : Int32)), (.int (own_same s1 e1 s2 e2))])
        refine Win.st ?_ (fun tq kq => XS.icmpNo X88.here hx rfl (hb hby at_111) rfl (teq (own_sameF fun q => hc73 q.1)).2 kq)
        show Win p e below _ T88 (mkF mt 114 #[.val (.int s1), .val (.int e1), .val (.int ds), .val (.int de), .val (.int fl), .val (.int s2), .val (.int e2), .val (.ref b47), .val (.ref b59), .val (.int (0 : Int32)), .val (.int (own_same s1 e1 s2 e2)), .val (.int (own_same s2 e2 s1 e1))] [])
        refine Win.st ?_ (fun tq kq => XS.iload X88.here hx rfl (hb hby at_114) rfl kq)
        show Win p e below _ T88 (mkF mt 116 #[.val (.int s1), .val (.int e1), .val (.int ds), .val (.int de), .val (.int fl), .val (.int s2), .val (.int e2), .val (.ref b47), .val (.ref b59), .val (.int (0 : Int32)), .val (.int (own_same s1 e1 s2 e2)), .val (.int (own_same s2 e2 s1 e1))] [(.int (own_same s2 e2 s1 e1))])
        refine Win.st ?_ (fun tq kq => XS.iload X88.here hx rfl (hb hby at_116) rfl kq)
        show Win p e below _ T88 (mkF mt 118 #[.val (.int s1), .val (.int e1), .val (.int ds), .val (.int de), .val (.int fl), .val (.int s2), .val (.int e2), .val (.ref b47), .val (.ref b59), .val (.int (0 : Int32)), .val (.int (own_same s1 e1 s2 e2)), .val (.int (own_same s2 e2 s1 e1))] [(.int (0 : Int32)), (.int (own_same s2 e2 s1 e1))])
        refine Win.st ?_ (fun tq kq => XS.icmpNo X88.here hx rfl (hb hby at_118) rfl (teq (own_sameF fun q => hc73 q.1.symm)).2 kq)
        show Win p e below _ T88 (mkF mt 121 #[.val (.int s1), .val (.int e1), .val (.int ds), .val (.int de), .val (.int fl), .val (.int s2), .val (.int e2), .val (.ref b47), .val (.ref b59), .val (.int (0 : Int32)), .val (.int (own_same s1 e1 s2 e2)), .val (.int (own_same s2 e2 s1 e1))] [])
        refine Win.st ?_ (fun tq kq => XS.iconst X88.here hx rfl (hb hby at_121) kq)
        show Win p e below _ T88 (mkF mt 122 #[.val (.int s1), .val (.int e1), .val (.int ds), .val (.int de), .val (.int fl), .val (.int s2), .val (.int e2), .val (.ref b47), .val (.ref b59), .val (.int (0 : Int32)), .val (.int (own_same s1 e1 s2 e2)), .val (.int (own_same s2 e2 s1 e1))] [(.int (1 : Int32))])
        refine Win.st ?_ (fun tq kq => XS.goto X88.here hx rfl (pc0 := 122) (pc' := 126) rfl (hb hby at_122) (by decide) (by decide) kq)
        show Win p e below _ T88 (mkF mt 126 #[.val (.int s1), .val (.int e1), .val (.int ds), .val (.int de), .val (.int fl), .val (.int s2), .val (.int e2), .val (.ref b47), .val (.ref b59), .val (.int (0 : Int32)), .val (.int (own_same s1 e1 s2 e2)), .val (.int (own_same s2 e2 s1 e1))] [(.int (1 : Int32))])
        exact Win.retNW (s := s) (vm₁ := T65.vm) X88 hS65 hk82 hx hlk e88 (t := .boolean) (z' := (1 : Int32)) hrt (by simp) (hb hby at_126) (by decide) (by decide) rfl ⟨rfl, N88⟩
    by_cases hc18 : (fl &&& (2 : Int32)) = (0 : Int32)
    · refine Win.st ?_ (fun tq kq => XS.ifYes X45.here hx rfl (pc0 := 18) (pc' := 25) rfl (hb hby at_18) rfl ((if0 _ _).trans (teq hc18).1) (by decide) (by decide) kq)
      show Win p e below _ T45 (mkF mt 25 #[.val (.int s1), .val (.int e1), .val (.int ds), .val (.int de), .val (.int fl), .val (.int s2), .unset, .unset, .unset, .unset, .unset, .unset] [])
      refine Win.st ?_ (fun tq kq => XS.iloadN X45.here hx rfl (hb hby at_25) rfl kq)
      show Win p e below _ T45 (mkF mt 26 #[.val (.int s1), .val (.int e1), .val (.int ds), .val (.int de), .val (.int fl), .val (.int s2), .unset, .unset, .unset, .unset, .unset, .unset] [(.int de)])
      refine Win.st ?_ (fun tq kq => XS.istore X45.here hx rfl (hb hby at_26) rfl (l' := #[.val (.int s1), .val (.int e1), .val (.int ds), .val (.int de), .val (.int fl), .val (.int s2), .val (.int de), .unset, .unset, .unset, .unset, .unset]) rfl kq)
      show Win p e below _ T45 (mkF mt 28 #[.val (.int s1), .val (.int e1), .val (.int ds), .val (.int de), .val (.int fl), .val (.int s2), .val (.int de), .unset, .unset, .unset, .unset, .unset] [])
      exact j2 T45 _ (de) X45 e45 N45
    · refine Win.st ?_ (fun tq kq => XS.ifNo X45.here hx rfl (hb hby at_18) rfl ((if0 _ _).trans (feq hc18).1) kq)
      show Win p e below _ T45 (mkF mt 21 #[.val (.int s1), .val (.int e1), .val (.int ds), .val (.int de), .val (.int fl), .val (.int s2), .unset, .unset, .unset, .unset, .unset, .unset] [])
      refine Win.st ?_ (fun tq kq => XS.iloadN X45.here hx rfl (hb hby at_21) rfl kq)
      show Win p e below _ T45 (mkF mt 22 #[.val (.int s1), .val (.int e1), .val (.int ds), .val (.int de), .val (.int fl), .val (.int s2), .unset, .unset, .unset, .unset, .unset, .unset] [(.int e1)])
      refine Win.st ?_ (fun tq kq => XS.goto X45.here hx rfl (pc0 := 22) (pc' := 26) rfl (hb hby at_22) (by decide) (by decide) kq)
      show Win p e below _ T45 (mkF mt 26 #[.val (.int s1), .val (.int e1), .val (.int ds), .val (.int de), .val (.int fl), .val (.int s2), .unset, .unset, .unset, .unset, .unset, .unset] [(.int e1)])
      refine Win.st ?_ (fun tq kq => XS.istore X45.here hx rfl (hb hby at_26) rfl (l' := #[.val (.int s1), .val (.int e1), .val (.int ds), .val (.int de), .val (.int fl), .val (.int s2), .val (.int e1), .unset, .unset, .unset, .unset, .unset]) rfl kq)
      show Win p e below _ T45 (mkF mt 28 #[.val (.int s1), .val (.int e1), .val (.int ds), .val (.int de), .val (.int fl), .val (.int s2), .val (.int e1), .unset, .unset, .unset, .unset, .unset] [])
      exact j2 T45 _ (e1) X45 e45 N45
  by_cases hc4 : (fl &&& (1 : Int32)) = (0 : Int32)
  · refine Win.st ?_ (fun tq kq => XS.ifYes X0.here hx rfl (pc0 := 4) (pc' := 11) rfl (hb hby at_4) rfl ((if0 _ _).trans (teq hc4).1) (by decide) (by decide) kq)
    show Win p e below _ s₁ (mkF mt 11 #[.val (.int s1), .val (.int e1), .val (.int ds), .val (.int de), .val (.int fl), .unset, .unset, .unset, .unset, .unset, .unset, .unset] [])
    refine Win.st ?_ (fun tq kq => XS.iloadN X0.here hx rfl (hb hby at_11) rfl kq)
    show Win p e below _ s₁ (mkF mt 12 #[.val (.int s1), .val (.int e1), .val (.int ds), .val (.int de), .val (.int fl), .unset, .unset, .unset, .unset, .unset, .unset, .unset] [(.int ds)])
    refine Win.st ?_ (fun tq kq => XS.istore X0.here hx rfl (hb hby at_12) rfl (l' := #[.val (.int s1), .val (.int e1), .val (.int ds), .val (.int de), .val (.int fl), .val (.int ds), .unset, .unset, .unset, .unset, .unset, .unset]) rfl kq)
    show Win p e below _ s₁ (mkF mt 14 #[.val (.int s1), .val (.int e1), .val (.int ds), .val (.int de), .val (.int fl), .val (.int ds), .unset, .unset, .unset, .unset, .unset, .unset] [])
    exact j1 s₁ _ (ds) X0 e0 N0
  · refine Win.st ?_ (fun tq kq => XS.ifNo X0.here hx rfl (hb hby at_4) rfl ((if0 _ _).trans (feq hc4).1) kq)
    show Win p e below _ s₁ (mkF mt 7 #[.val (.int s1), .val (.int e1), .val (.int ds), .val (.int de), .val (.int fl), .unset, .unset, .unset, .unset, .unset, .unset, .unset] [])
    refine Win.st ?_ (fun tq kq => XS.iloadN X0.here hx rfl (hb hby at_7) rfl kq)
    show Win p e below _ s₁ (mkF mt 8 #[.val (.int s1), .val (.int e1), .val (.int ds), .val (.int de), .val (.int fl), .unset, .unset, .unset, .unset, .unset, .unset, .unset] [(.int s1)])
    refine Win.st ?_ (fun tq kq => XS.goto X0.here hx rfl (pc0 := 8) (pc' := 12) rfl (hb hby at_8) (by decide) (by decide) kq)
    show Win p e below _ s₁ (mkF mt 12 #[.val (.int s1), .val (.int e1), .val (.int ds), .val (.int de), .val (.int fl), .unset, .unset, .unset, .unset, .unset, .unset, .unset] [(.int s1)])
    refine Win.st ?_ (fun tq kq => XS.istore X0.here hx rfl (hb hby at_12) rfl (l' := #[.val (.int s1), .val (.int e1), .val (.int ds), .val (.int de), .val (.int fl), .val (.int s1), .unset, .unset, .unset, .unset, .unset, .unset]) rfl kq)
    show Win p e below _ s₁ (mkF mt 14 #[.val (.int s1), .val (.int e1), .val (.int ds), .val (.int de), .val (.int fl), .val (.int s1), .unset, .unset, .unset, .unset, .unset, .unset] [])
    exact j1 s₁ _ (s1) X0 e0 N0
set_option maxRecDepth 65536 in
set_option maxHeartbeats 40000000 in
theorem comes_1 {Post : Tables → Env → Array Value → State → Outcome → State → Prop} (hpost : ∀ tb e args s v u, (limb_1_1.after args s (.returned v) u = true ∧ limb_1_2.after args s (.returned v) u = true ∧ True) → ReturnedEndW s (.returned v) u (Jvm.fieldLocs frame_1_writes args s ++ Jvm.arrayLocs frame_1_arrays args s ++ Jvm.staticLocs frame_1_statics s) 24 2176 → Post tb e args s (.returned v) u) :
    ArmFor flags0 classFile x code maxLocals ret World_1 tables_1 room_1 Calls_1 rest_1 Pre_1 Post := by
  intro l hfl _ _ p e ha hc hk s m args below hf hA hF happ hP
  obtain ⟨hcalls, hrest, hpre⟩ := hP
  obtain ⟨-, -, -, hnamed, -, -, -, hat⟩ := (Spec.applies_iff hf).mp happ
  obtain ⟨hg, hn⟩ := and_e (Cond.before_iff.mp (show (Jvm.Cond.and given_1 narrow_1).before args s = true from hpre))
  obtain ⟨ga0, gb0⟩ := and_e hg
  obtain ⟨ga1, gb1⟩ := and_e gb0
  obtain ⟨ga2, gb2⟩ := and_e gb1
  obtain ⟨ga3, gb3⟩ := and_e gb2
  obtain ⟨ga4, gb4⟩ := and_e gb3
  obtain ⟨w0, w1, w2, w3, w4, rfl⟩ : ∃ w0 w1 w2 w3 w4 : Value, args = #[w0, w1, w2, w3, w4] := by
    have hs : args.size = 5 := by simpa [Cond.value, given_1] using ga0
    obtain ⟨L⟩ := args
    match L, hs with
    | [w0, w1, w2, w3, w4], _ => exact ⟨w0, w1, w2, w3, w4, rfl⟩
  have hw := fun d (hd : d ∈ tables_1) => atoms_spec (ws := Jvm.Cond.code x code maxLocals ret :: tables_1) hat d (List.mem_cons_of_mem _ hd)
  have hfit : Fit s := fun {y c} hc i hi => by
    obtain ⟨ha, rfl⟩ := Array.getElem?_eq_some_iff.mp hc
    have q := List.all_eq_true.mp ((Array.all_eq_true_iff_forall_mem.mp hF) _ (Array.getElem_mem ha)) i (List.mem_range.mpr hi)
    simpa [Array.getElem?_eq_getElem hi] using q
  obtain ⟨i0, ei0⟩ := is_v ga1
  obtain rfl : w0 = (.int i0) := Option.some.inj ei0
  obtain ⟨i1, ei1⟩ := is_v ga2
  obtain rfl : w1 = (.int i1) := Option.some.inj ei1
  obtain ⟨i2, ei2⟩ := is_v ga3
  obtain rfl : w2 = (.int i2) := Option.some.inj ei2
  obtain ⟨i3, ei3⟩ := is_v ga4
  obtain rfl : w3 = (.int i3) := Option.some.inj ei3
  obtain ⟨i4, ei4⟩ := is_v gb4
  obtain rfl : w4 = (.int i4) := Option.some.inj ei4
  obtain ⟨vN, eN, fN⟩ := static_fit hfit (hw _ (List.mem_of_getElem? (i := 13) rfl)) (ty := .object "com/example/fair_question/fairquestion/match/Fit") (by decide)
  have SN := Sta.start eN (Or.inr ⟨(hw _ (List.mem_of_getElem? (i := 12) rfl)), (hw _ (List.mem_of_getElem? (i := 13) rfl))⟩)
  have rN := fit_R fN rfl
  obtain ⟨n, o, h1, h2, h3, _, L, rfl, ⟨rfl, N⟩, hq⟩ := rm_law l s _ hw tables_1 i0 i1 i2 i3 i4 vN s.heap s.heap.size (Nat.le_refl _) SN rN p e ha hc hk s m _ below hf ((Spec.applies_iff_loose hf).mp happ).1 ⟨rfl, State.Warmed39.refl s, rfl⟩ trivial
  refine ⟨n, _, h1, h2, h3, hpost _ _ _ _ _ _ ⟨Cond.after_iff.mpr rfl, Cond.after_iff.mpr (eq_i res_at (Term.int_eval (1)) rfl), trivial⟩ ⟨hq.1, hq.2.1, hq.2.2.1, (hq.2.2.2.sift fun y hy => Or.inr (N y hy)).mono (by decide) (by decide)⟩⟩
theorem main_1_1 : Claimed_1_1 := comes_1 fun _ _ _ _ _ _ h hF => ⟨h.1, hF⟩
theorem main_1_2 : Claimed_1_2 := comes_1 fun _ _ _ _ _ _ h hF => ⟨h.2.1, hF⟩
end Jvm.Pilot.@@N@@
namespace Jvm.Pilot.@@N@@
open Jvm Jvm.ClassFile Sem Op Lib Jvm.Free Jvm.Stand Jvm.Pilot.@@N@@.Jvm.D
/-! MADE BY PROGRAM (witnessworld.py) out of the Statement's table words and the real class files: 15 classes; the members and pool entries that the words name. The judged class is class 1, her method 1. -/
namespace start1
open Jvm.ClassFile
def u (s : String) : CpInfo := .utf8 (stringToUtf16 s)
/-- a pool by its gaps: so many unusable entries, then the entry; so many at the end -/
def gap : Nat → List CpInfo → List CpInfo
  | 0, r => r
  | n + 1, r => .unusable :: gap n r
def poolList (es : List (Nat × CpInfo)) (last : Nat) : List CpInfo := es.foldr (fun e r => gap e.1 (e.2 :: r)) (gap last [])
def pool (es : List (Nat × CpInfo)) (last : Nat) : Array CpInfo := ⟨poolList es last⟩
def fileOf (pool : Array CpInfo) (this : Nat) (attrs : Array Attribute := #[]) (ms : Array MethodInfo := #[]) (fl : Nat := 33) (sup : Nat := 0) (ifs : Array Nat := #[]) (fds : Array FieldInfo := #[]) : ClassFile where
  minorVersion := 0
  majorVersion := 65
  constantPool := pool
  accessFlags := fl
  thisClass := this
  superClass := sup
  interfaces := ifs
  fields := fds
  methods := ms
  attributes := attrs
def plain (name : String) (sup : Option ClassId) : Class where
  name := name
  kind := .ordinary
  loader := none
  accessFlags := 33
  super := sup
  interfaces := #[]
  cf := none
  fields := #[]
  methods := #[]
  instanceTypes := #[]
  staticTypes := #[]
  resolved := #[]
  callSites := []
  init := .initialized
  statics := none
  mirror := none

def pool0 : Array CpInfo := pool [(5, u "<init>"), (0, u "()V"), (1, .class_ 10), (1, u "java/lang/Object")] 113

def k0c0 : Code := { maxStack := 0, maxLocals := 1, code := object_method_1_code, exceptionTable := #[], attributes := #[] }
def k0m0 : Method := { name := "<init>", desc := "()V", sig := { parameters := [], returnType := none }, accessFlags := 1, code := some k0c0 }
/-- java/lang/Object -/
def k0 : Class := { plain "java/lang/Object" none with
  accessFlags := 33
  interfaces := #[]
  cf := some (fileOf pool0 8 #[] #[{ accessFlags := 1, nameIndex := 5, descriptorIndex := 6, attributes := #[] }] 33 0 #[] #[])
  fields := #[]
  methods := #[k0m0]
  instanceTypes := #[]
  staticTypes := #[]
  resolved := Array.replicate 124 none
  statics := none }

def pool1 : Array CpInfo := pool [(2, .class_ 4), (1, u "java/lang/Object"), (0, u "<init>"), (0, u "()V"), (0, .class_ 8), (0, u "com/example/fair_question/fairquestion/match/Match"), (0, .string 10), (0, u "a"), (0, .fieldref 12 13), (0, .class_ 14), (0, .nameAndType 15 16), (0, u "com/example/fair_question/fairquestion/match/Fit"), (0, u "NONE"), (0, u "Lcom/example/fair_question/fairquestion/match/Fit;"), (0, .methodref 7 18), (0, .nameAndType 5 19), (0, u "(Ljava/lang/String;IILcom/example/fair_question/fairquestion/match/Fit;)V"), (0, .string 21), (0, u "b"), (0, .methodref 12 23), (0, .nameAndType 5 24), (0, u "(III)V"), (0, .methodref 7 26), (0, .nameAndType 27 28), (0, u "coversSameTerms"), (0, u "(Lcom/example/fair_question/fairquestion/match/Match;)Z"), (0, .class_ 30), (0, u "com/example/fair_question/fairquestion/match/MatchCoversSameTermsPinLaw"), (2, u "law"), (0, u "(IIIII)Z")] 3

def k1m0 : Method := { name := "<init>", desc := "()V", sig := { parameters := [], returnType := none }, accessFlags := 1, code := none }
def k1c1 : Code := { maxStack := 10, maxLocals := 12, code := code, exceptionTable := #[], attributes := #[] }
def k1m1 : Method := { name := "law", desc := "(IIIII)Z", sig := { parameters := [.int, .int, .int, .int, .int], returnType := some .boolean }, accessFlags := 9, code := some k1c1 }
/-- com/example/fair_question/fairquestion/match/MatchCoversSameTermsPinLaw -/
def k1 : Class := { plain "com/example/fair_question/fairquestion/match/MatchCoversSameTermsPinLaw" (some 0) with
  accessFlags := 49
  interfaces := #[]
  cf := some (fileOf pool1 29 #[] #[{ accessFlags := 1, nameIndex := 5, descriptorIndex := 6, attributes := #[] }, { accessFlags := 9, nameIndex := 33, descriptorIndex := 34, attributes := #[] }] 49 2 #[] #[])
  fields := #[]
  methods := #[k1m0, k1m1]
  instanceTypes := #[]
  staticTypes := #[]
  resolved := Array.replicate 38 none
  statics := none }

def pool2 : Array CpInfo := pool [(1, .methodref 2 3), (0, .class_ 4), (0, .nameAndType 5 6), (0, u "java/lang/Object"), (0, u "<init>"), (0, u "()V"), (0, .fieldref 8 9), (0, .class_ 10), (0, .nameAndType 11 12), (0, u "com/example/fair_question/fairquestion/match/Match"), (0, u "iri"), (0, u "Ljava/lang/String;"), (0, .fieldref 8 14), (0, .nameAndType 15 16), (0, u "start"), (0, u "I"), (0, .fieldref 8 18), (0, .nameAndType 19 16), (0, u "end"), (0, .fieldref 8 21), (0, .nameAndType 22 23), (0, u "fit"), (0, u "Lcom/example/fair_question/fairquestion/match/Fit;"), (0, u "(Ljava/lang/String;IILcom/example/fair_question/fairquestion/match/Fit;)V"), (13, u "(Lcom/example/fair_question/fairquestion/match/Match;)Z"), (0, u "coversSameTerms")] 2

def k2c0 : Code := { maxStack := 2, maxLocals := 5, code := prog_16_method_1_code, exceptionTable := #[], attributes := #[] }
def k2m0 : Method := { name := "<init>", desc := "(Ljava/lang/String;IILcom/example/fair_question/fairquestion/match/Fit;)V", sig := { parameters := [(.object "java/lang/String"), .int, .int, (.object "com/example/fair_question/fairquestion/match/Fit")], returnType := none }, accessFlags := 1, code := some k2c0 }
def k2c1 : Code := { maxStack := 2, maxLocals := 2, code := prog_16_method_8_code, exceptionTable := #[], attributes := #[] }
def k2m1 : Method := { name := "coversSameTerms", desc := "(Lcom/example/fair_question/fairquestion/match/Match;)Z", sig := { parameters := [(.object "com/example/fair_question/fairquestion/match/Match")], returnType := some .boolean }, accessFlags := 1, code := some k2c1 }
/-- com/example/fair_question/fairquestion/match/Match -/
def k2 : Class := { plain "com/example/fair_question/fairquestion/match/Match" (some 0) with
  accessFlags := 49
  interfaces := #[]
  cf := some (fileOf pool2 8 #[] #[{ accessFlags := 1, nameIndex := 5, descriptorIndex := 24, attributes := #[] }, { accessFlags := 1, nameIndex := 39, descriptorIndex := 38, attributes := #[] }] 49 2 #[] #[{ accessFlags := 18, nameIndex := 11, descriptorIndex := 12, attributes := #[] }, { accessFlags := 18, nameIndex := 15, descriptorIndex := 16, attributes := #[] }, { accessFlags := 18, nameIndex := 19, descriptorIndex := 16, attributes := #[] }, { accessFlags := 18, nameIndex := 22, descriptorIndex := 23, attributes := #[] }])
  fields := #[{ name := "iri", type := (.object "java/lang/String"), accessFlags := 18, slot := 0, constantValue := 0 }, { name := "start", type := .int, accessFlags := 18, slot := 1, constantValue := 0 }, { name := "end", type := .int, accessFlags := 18, slot := 2, constantValue := 0 }, { name := "fit", type := (.object "com/example/fair_question/fairquestion/match/Fit"), accessFlags := 18, slot := 3, constantValue := 0 }]
  methods := #[k2m0, k2m1]
  instanceTypes := #[(.object "java/lang/String"), .int, .int, (.object "com/example/fair_question/fairquestion/match/Fit")]
  staticTypes := #[]
  resolved := Array.replicate 42 none
  statics := none }

def pool3 : Array CpInfo := pool [(1, .class_ 2), (0, u "java/io/Serializable"), (0, .class_ 4), (0, u "java/lang/Object")] 2

/-- java/io/Serializable -/
def k3 : Class := { plain "java/io/Serializable" (some 0) with
  accessFlags := 1537
  interfaces := #[]
  cf := some (fileOf pool3 1 #[] #[] 1537 3 #[] #[])
  fields := #[]
  methods := #[]
  instanceTypes := #[]
  staticTypes := #[]
  resolved := Array.replicate 7 none
  statics := none }

def pool4 : Array CpInfo := pool [(1, .class_ 2), (0, u "java/lang/Comparable"), (0, .class_ 4), (0, u "java/lang/Object")] 7

/-- java/lang/Comparable -/
def k4 : Class := { plain "java/lang/Comparable" (some 0) with
  accessFlags := 1537
  interfaces := #[]
  cf := some (fileOf pool4 1 #[] #[] 1537 3 #[] #[])
  fields := #[]
  methods := #[]
  instanceTypes := #[]
  staticTypes := #[]
  resolved := Array.replicate 12 none
  statics := none }

def pool5 : Array CpInfo := pool [(2, .class_ 4), (1, u "java/lang/CharSequence"), (42, .class_ 48), (0, u "java/lang/CharSequence$1CodePointIterator"), (10, .class_ 60), (0, u "java/lang/CharSequence$1CharIterator"), (5, .class_ 67), (0, u "java/lang/Object")] 63

/-- java/lang/CharSequence -/
def k5 : Class := { plain "java/lang/CharSequence" (some 0) with
  accessFlags := 1537
  interfaces := #[]
  cf := some (fileOf pool5 2 #[.nestMembers #[47, 59]] #[] 1537 66 #[] #[])
  fields := #[]
  methods := #[]
  instanceTypes := #[]
  staticTypes := #[]
  resolved := Array.replicate 131 none
  statics := none }

def pool6 : Array CpInfo := pool [(1, .class_ 2), (0, u "java/lang/constant/Constable"), (0, .class_ 4), (0, u "java/lang/Object")] 6

/-- java/lang/constant/Constable -/
def k6 : Class := { plain "java/lang/constant/Constable" (some 0) with
  accessFlags := 1537
  interfaces := #[]
  cf := some (fileOf pool6 1 #[] #[] 1537 3 #[] #[])
  fields := #[]
  methods := #[]
  instanceTypes := #[]
  staticTypes := #[]
  resolved := Array.replicate 11 none
  statics := none }

def pool7 : Array CpInfo := pool [(1, .class_ 2), (0, u "java/lang/constant/ConstantDesc"), (0, .class_ 4), (0, u "java/lang/Object")] 32

/-- java/lang/constant/ConstantDesc -/
def k7 : Class := { plain "java/lang/constant/ConstantDesc" (some 0) with
  accessFlags := 1537
  interfaces := #[]
  cf := some (fileOf pool7 1 #[] #[] 1537 3 #[] #[])
  fields := #[]
  methods := #[]
  instanceTypes := #[]
  staticTypes := #[]
  resolved := Array.replicate 37 none
  statics := none }

def pool8 : Array CpInfo := pool [(2, .class_ 4), (1, u "java/lang/Object"), (0, u "<init>"), (0, u "()V"), (3, .class_ 12), (1, u "java/lang/String"), (0, u "value"), (0, u "[B"), (2, u "coder"), (0, u "B"), (2, u "hash"), (0, u "I"), (2, u "hashIsZero"), (0, u "Z"), (13, u "COMPACT_STRINGS"), (534, .class_ 576), (0, u "java/lang/CharSequence"), (22, u "CASE_INSENSITIVE_ORDER"), (0, u "Ljava/util/Comparator;"), (500, u "serialPersistentFields"), (0, u "[Ljava/io/ObjectStreamField;"), (0, .class_ 1104), (0, u "java/lang/String$CaseInsensitiveComparator"), (1, .class_ 1107), (0, u "java/io/Serializable"), (0, .class_ 1109), (0, u "java/lang/Comparable"), (0, .class_ 1111), (0, u "java/lang/constant/Constable"), (0, .class_ 1113), (0, u "java/lang/constant/ConstantDesc"), (2, u "serialVersionUID"), (0, u "J"), (3, u "REPL"), (0, u "C"), (2, u "LATIN1"), (1, u "UTF16")] 323

def k8m0 : Method := { name := "<init>", desc := "()V", sig := { parameters := [], returnType := none }, accessFlags := 1, code := none }
/-- java/lang/String -/
def k8 : Class := { plain "java/lang/String" (some 0) with
  accessFlags := 49
  interfaces := #[3, 4, 5, 6, 7]
  cf := some (fileOf pool8 10 #[.nestMembers #[1103]] #[{ accessFlags := 1, nameIndex := 5, descriptorIndex := 6, attributes := #[] }] 49 2 #[1106, 1108, 575, 1110, 1112] #[{ accessFlags := 18, nameIndex := 13, descriptorIndex := 14, attributes := #[] }, { accessFlags := 18, nameIndex := 17, descriptorIndex := 18, attributes := #[] }, { accessFlags := 2, nameIndex := 21, descriptorIndex := 22, attributes := #[] }, { accessFlags := 2, nameIndex := 25, descriptorIndex := 26, attributes := #[] }, { accessFlags := 26, nameIndex := 1116, descriptorIndex := 1117, attributes := #[] }, { accessFlags := 24, nameIndex := 40, descriptorIndex := 26, attributes := #[] }, { accessFlags := 26, nameIndex := 1101, descriptorIndex := 1102, attributes := #[] }, { accessFlags := 26, nameIndex := 1121, descriptorIndex := 1122, attributes := #[] }, { accessFlags := 25, nameIndex := 599, descriptorIndex := 600, attributes := #[] }, { accessFlags := 24, nameIndex := 1125, descriptorIndex := 18, attributes := #[] }, { accessFlags := 24, nameIndex := 1127, descriptorIndex := 18, attributes := #[] }])
  fields := #[{ name := "value", type := (.array .byte), accessFlags := 18, slot := 0, constantValue := 0 }, { name := "coder", type := .byte, accessFlags := 18, slot := 1, constantValue := 0 }, { name := "hash", type := .int, accessFlags := 2, slot := 2, constantValue := 0 }, { name := "hashIsZero", type := .boolean, accessFlags := 2, slot := 3, constantValue := 0 }, { name := "serialVersionUID", type := .long, accessFlags := 26, slot := 0, constantValue := 0 }, { name := "COMPACT_STRINGS", type := .boolean, accessFlags := 24, slot := 1, constantValue := 0 }, { name := "serialPersistentFields", type := (.array (.object "java/io/ObjectStreamField")), accessFlags := 26, slot := 2, constantValue := 0 }, { name := "REPL", type := .char, accessFlags := 26, slot := 3, constantValue := 0 }, { name := "CASE_INSENSITIVE_ORDER", type := (.object "java/util/Comparator"), accessFlags := 25, slot := 4, constantValue := 0 }, { name := "LATIN1", type := .byte, accessFlags := 24, slot := 5, constantValue := 0 }, { name := "UTF16", type := .byte, accessFlags := 24, slot := 6, constantValue := 0 }]
  methods := #[k8m0]
  instanceTypes := #[(.array .byte), .byte, .int, .boolean]
  staticTypes := #[.long, .boolean, (.array (.object "java/io/ObjectStreamField")), .char, (.object "java/util/Comparator"), .byte, .byte]
  resolved := Array.replicate 1451 none
  statics := none }

def pool9 : Array CpInfo := pool [(1, .methodref 2 3), (0, .class_ 4), (0, .nameAndType 5 6), (0, u "java/lang/Object"), (0, u "<init>"), (0, u "()V"), (0, .fieldref 8 9), (0, .class_ 10), (0, .nameAndType 11 12), (0, u "com/example/fair_question/fairquestion/match/Fit"), (0, u "foreignNames"), (0, u "I"), (0, .fieldref 8 14), (0, .nameAndType 15 12), (0, u "coveredTerms"), (0, .fieldref 8 17), (0, .nameAndType 18 12), (0, u "inexactTerms"), (2, u "(III)V"), (20, u "NONE"), (0, u "Lcom/example/fair_question/fairquestion/match/Fit;"), (0, .class_ 45), (0, u "java/lang/Comparable")] 18

def k9c0 : Code := { maxStack := 2, maxLocals := 4, code := prog_15_method_1_code, exceptionTable := #[], attributes := #[] }
def k9m0 : Method := { name := "<init>", desc := "(III)V", sig := { parameters := [.int, .int, .int], returnType := none }, accessFlags := 1, code := some k9c0 }
/-- com/example/fair_question/fairquestion/match/Fit -/
def k9 : Class := { plain "com/example/fair_question/fairquestion/match/Fit" (some 0) with
  accessFlags := 49
  interfaces := #[4]
  cf := some (fileOf pool9 8 #[] #[{ accessFlags := 1, nameIndex := 5, descriptorIndex := 21, attributes := #[] }] 49 2 #[44] #[{ accessFlags := 25, nameIndex := 42, descriptorIndex := 43, attributes := #[] }, { accessFlags := 18, nameIndex := 11, descriptorIndex := 12, attributes := #[] }, { accessFlags := 18, nameIndex := 15, descriptorIndex := 12, attributes := #[] }, { accessFlags := 18, nameIndex := 18, descriptorIndex := 12, attributes := #[] }])
  fields := #[{ name := "NONE", type := (.object "com/example/fair_question/fairquestion/match/Fit"), accessFlags := 25, slot := 0, constantValue := 0 }, { name := "foreignNames", type := .int, accessFlags := 18, slot := 0, constantValue := 0 }, { name := "coveredTerms", type := .int, accessFlags := 18, slot := 1, constantValue := 0 }, { name := "inexactTerms", type := .int, accessFlags := 18, slot := 2, constantValue := 0 }]
  methods := #[k9m0]
  instanceTypes := #[.int, .int, .int]
  staticTypes := #[(.object "com/example/fair_question/fairquestion/match/Fit")]
  resolved := Array.replicate 64 none
  statics := some 0 }

def pool10 : Array CpInfo := pool [(1, u "java/lang/Cloneable"), (0, .class_ 1), (0, u "java/lang/Object"), (0, .class_ 3)] 3

/-- java/lang/Cloneable -/
def k10 : Class := { plain "java/lang/Cloneable" (some 0) with
  accessFlags := 1537
  interfaces := #[]
  cf := some (fileOf pool10 2 #[] #[] 1537 4 #[] #[])
  fields := #[]
  methods := #[]
  instanceTypes := #[]
  staticTypes := #[]
  resolved := Array.replicate 8 none
  statics := none }

/-- the primitive byte -/
def k11 : Class := { plain "byte" none with kind := .primitive 'B', accessFlags := 0x411 }
/-- [B -/
def k12 : Class := { plain "[B" (some 0) with kind := .array 11 .byte, interfaces := #[10, 3], accessFlags := 1041 }

/-- the primitive int -/
def k13 : Class := { plain "int" none with kind := .primitive 'I', accessFlags := 0x411 }
/-- [I -/
def k14 : Class := { plain "[I" (some 0) with kind := .array 13 .int, interfaces := #[10, 3], accessFlags := 1041 }

def heap : Heap := #[{ cls := 9, slots := #[.ref 1], vm := .statics 9 },
  { cls := 9, slots := #[.int 0, .int 0, .int 0], vm := .none }]
def classes : Array Class := #[k0, k1, k2, k3, k4, k5, k6, k7, k8, k9, k10, k11, k12, k13, k14]
def interned : List (Array UInt16 × Addr) := []
def slotsUsed : Nat := 4
def theMethod : MethodId := ⟨1, 1⟩
def args0 : Array Value := #[.int 5, .int 6, .int 7, .int 8, .int 9]
def aboutOver (below : List Frame) : State where
  vm := { classes := classes, interned := interned.toArray }
  heap := heap
  slotsUsed := slotsUsed
  threads := #[{ frames := .invoking theMethod args0 :: below }]
def below0 : List Frame := [.native { method := ⟨0, 0⟩, args := #[] }]
def about1 : State := aboutOver below0
def p0 : Program := .bare "" "" ""
def e0 : Env := launch0.env 0 0 0
theorem w_frames : about1.frames = Frame.invoking theMethod args0 :: below0 := rfl
set_option maxRecDepth 65536 in
theorem w_args : argsFit about1.vm theMethod args0 = true := by decide +kernel
set_option maxRecDepth 65536 in
theorem w_heap : heapFits about1 = true := by decide +kernel
set_option maxRecDepth 65536 in
theorem w_runnable : about1.curStatus? = some .runnable := by decide +kernel
set_option maxRecDepth 65536 in
theorem w_alone : about1.alone = true := by decide +kernel
set_option maxRecDepth 65536 in
theorem w_named : about1.methodNamed? x = some theMethod := by decide +kernel
set_option maxRecDepth 65536 in
theorem w_hears : about1.hears theMethod below0 = true := by decide +kernel
set_option maxRecDepth 65536 in
theorem w_ripe : about1.ripe theMethod args0 below0 = true := by decide +kernel
theorem w_running : about1.status = .running := rfl
set_option maxRecDepth 65536 in
theorem w_room : about1.hasRoom e0.platform room_1 = true :=
  launch0.hasRoom_least _ room_1 (by decide +kernel) (by decide +kernel) (by decide +kernel) (by decide +kernel) (by decide +kernel) (by decide +kernel)
theorem allAtoms_all (ts : List Jvm.Cond) (a : Array Jvm.Value) (st : Jvm.State) : (allAtoms ts).before a st = ts.all (fun c => c.before a st) := by
  induction ts with
  | nil => rfl
  | cons c t ih =>
    show (Jvm.Cond.and c (allAtoms t)).before a st = _
    rw [Jvm.Cond.before_and, ih, List.all_cons]
def words1 : List Jvm.Cond := Jvm.Cond.code x code maxLocals ret :: tables_1
/-- a 'code' word, met by the world's own term for the bytes: nothing is compared byte by byte -/
theorem code_word {y : MethodName} {bytes : ByteArray} {mx : Nat} {rt : Option FieldType} {a : Array Value} {s : State} {m : MethodId} {meth : Method} {c : Code} (h1 : s.methodNamed? y = some m) (h2 : s.vm.method? m = some meth) (h3 : meth.code = some c) (h4 : c.code = bytes)
    (h5 : (c.maxLocals == mx && c.exceptionTable.isEmpty && decide (c.maxStack ≤ mostOperands) && decide (meth.sig.returnType = rt) && !meth.locks && decide (parseMethodDescriptor y.desc = some meth.sig)) = true) : (Jvm.Cond.code y bytes mx rt).before a s = true := by
  simp only [Bool.and_eq_true, beq_iff_eq, Bool.not_eq_true', decide_eq_true_eq] at h5
  obtain ⟨⟨⟨⟨⟨g1, g2⟩, g3⟩, g4⟩, g5⟩, g6⟩ := h5
  simp [Cond.before, Cond.holds, Cond.value, h1, h2, h3, h4, g1, g2, g3, g4, g5, g6]
def isCode : Jvm.Cond → Bool
  | .code _ _ _ _ => true
  | _ => false
theorem all_split {L : List Jvm.Cond} {P : Jvm.Cond → Bool} (h1 : L.all (fun c => isCode c || P c) = true) (h2 : ∀ c ∈ L.filter isCode, P c = true) : L.all P = true := by
  refine List.all_eq_true.mpr fun c hc => ?_
  have h := List.all_eq_true.mp h1 c hc
  rcases Bool.eq_false_or_eq_true (isCode c) with hi | hi
  · exact h2 c (List.mem_filter.mpr ⟨hc, hi⟩)
  · simpa [hi] using h
set_option maxRecDepth 65536 in
theorem w_c0 : (Jvm.Cond.code x code maxLocals ret).before args0 about1 = true := code_word (m := ⟨1, 1⟩) (meth := k1m1) (c := k1c1) (by decide +kernel) rfl rfl rfl (by decide +kernel)
set_option maxRecDepth 65536 in
theorem w_c1 : (Jvm.Cond.code ({ cls := "com/example/fair_question/fairquestion/match/Match", name := "<init>", desc := "(Ljava/lang/String;IILcom/example/fair_question/fairquestion/match/Fit;)V" } : Jvm.MethodName) prog_16_method_1_code (5 : Nat) (Option.none : Option Jvm.ClassFile.FieldType)).before args0 about1 = true := code_word (m := ⟨2, 0⟩) (meth := k2m0) (c := k2c0) (by decide +kernel) rfl rfl rfl (by decide +kernel)
set_option maxRecDepth 65536 in
theorem w_c2 : (Jvm.Cond.code ({ cls := "java/lang/Object", name := "<init>", desc := "()V" } : Jvm.MethodName) object_method_1_code (1 : Nat) (Option.none : Option Jvm.ClassFile.FieldType)).before args0 about1 = true := code_word (m := ⟨0, 0⟩) (meth := k0m0) (c := k0c0) (by decide +kernel) rfl rfl rfl (by decide +kernel)
set_option maxRecDepth 65536 in
theorem w_c3 : (Jvm.Cond.code ({ cls := "com/example/fair_question/fairquestion/match/Fit", name := "<init>", desc := "(III)V" } : Jvm.MethodName) prog_15_method_1_code (4 : Nat) (Option.none : Option Jvm.ClassFile.FieldType)).before args0 about1 = true := code_word (m := ⟨9, 0⟩) (meth := k9m0) (c := k9c0) (by decide +kernel) rfl rfl rfl (by decide +kernel)
set_option maxRecDepth 65536 in
theorem w_c4 : (Jvm.Cond.code ({ cls := "com/example/fair_question/fairquestion/match/Match", name := "coversSameTerms", desc := "(Lcom/example/fair_question/fairquestion/match/Match;)Z" } : Jvm.MethodName) prog_16_method_8_code (2 : Nat) (Option.some Jvm.ClassFile.FieldType.boolean)).before args0 about1 = true := code_word (m := ⟨2, 1⟩) (meth := k2m1) (c := k2c1) (by decide +kernel) rfl rfl rfl (by decide +kernel)
def codes1 : List Jvm.Cond := [Jvm.Cond.code x code maxLocals ret, Jvm.Cond.code ({ cls := "com/example/fair_question/fairquestion/match/Match", name := "<init>", desc := "(Ljava/lang/String;IILcom/example/fair_question/fairquestion/match/Fit;)V" } : Jvm.MethodName) prog_16_method_1_code (5 : Nat) (Option.none : Option Jvm.ClassFile.FieldType), Jvm.Cond.code ({ cls := "java/lang/Object", name := "<init>", desc := "()V" } : Jvm.MethodName) object_method_1_code (1 : Nat) (Option.none : Option Jvm.ClassFile.FieldType), Jvm.Cond.code ({ cls := "com/example/fair_question/fairquestion/match/Fit", name := "<init>", desc := "(III)V" } : Jvm.MethodName) prog_15_method_1_code (4 : Nat) (Option.none : Option Jvm.ClassFile.FieldType), Jvm.Cond.code ({ cls := "com/example/fair_question/fairquestion/match/Match", name := "coversSameTerms", desc := "(Lcom/example/fair_question/fairquestion/match/Match;)Z" } : Jvm.MethodName) prog_16_method_8_code (2 : Nat) (Option.some Jvm.ClassFile.FieldType.boolean)]
set_option maxRecDepth 65536 in
theorem codes_eq : words1.filter isCode = codes1 := rfl
theorem w_codes : ∀ c ∈ words1.filter isCode, c.before args0 about1 = true := by
  rw [codes_eq]
  intro c hc
  simp only [codes1, List.mem_cons, List.not_mem_nil, or_false] at hc
  rcases hc with rfl | rfl | rfl | rfl | rfl
  · exact w_c0
  · exact w_c1
  · exact w_c2
  · exact w_c3
  · exact w_c4
set_option maxRecDepth 65536 in
theorem w_t1 : (words1.take 24).all (fun c => isCode c || c.before args0 about1) = true := by decide +kernel
set_option maxRecDepth 65536 in
theorem w_t2 : (words1.drop 24).all (fun c => isCode c || c.before args0 about1) = true := by decide +kernel
theorem w_tables : (allAtoms (Jvm.Cond.code x code maxLocals ret :: tables_1)).before args0 about1 = true := by
  rw [allAtoms_all]
  show words1.all (fun c => c.before args0 about1) = true
  refine all_split ?_ w_codes
  rw [← List.take_append_drop 24 words1, List.all_append, w_t1, w_t2]
  rfl
set_option maxRecDepth 65536 in
theorem w_case : (Jvm.Cond.and given_1 narrow_1).before args0 about1 = true := by decide +kernel
theorem w_applies : (headSpec (Jvm.Cond.code x code maxLocals ret :: tables_1) room_1).applies x e0.platform about1 = true :=
  (Spec.applies_iff w_frames).mpr ⟨w_running, w_runnable, w_alone, w_named, w_hears, w_ripe, w_room, w_tables⟩
theorem atStart : AtStart classFile x code maxLocals ret World_1 tables_1 room_1 Calls_1 rest_1 Pre_1 launch0 p0 e0 about1 theMethod args0 below0 :=
  ⟨lists_1, trivial, launch0.admits_env _ _ _, launch0.least_env, fairChoices_fair.cas, fairChoices_fair.clock, w_frames, w_args, w_heap, w_applies, trivial, trivial, w_case⟩
end start1
theorem witness_1 : WitnessClaimed_1 := ⟨start1.p0, start1.e0, start1.about1, start1.theMethod, start1.args0, start1.below0, start1.atStart⟩
end Jvm.Pilot.@@N@@
