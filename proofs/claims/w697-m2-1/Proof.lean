import JvmDerived
import JvmDerived.Pilot.@@N@@Statement
import JvmDerived.Pilot.@@N@@Code
set_option linter.unusedVariables false
set_option linter.unusedSimpArgs false
namespace Jvm.Pilot.@@N@@
open Jvm Jvm.ClassFile Sem Op Lib Jvm.Free Jvm.Stand Jvm.LawKit Jvm.RoadKit Bundle Jvm.Pilot.@@N@@.Jvm.D
section Own
variable {p : Program} {l : Launch} {e : Env} {R : Room} {s : State} {m : MethodId} {args : Array Value} {below : List Frame} {meth : Method} {c : Code} {T T' : State} {locs : List Loc} {cells slots : Nat} {G : Outcome → State → Prop} {g g' : JFrame} {Z : State} {h h' h0 : Heap} {a b : Addr} {n0 : Nat} {Q : Option Value → Heap → List Loc → Prop} {CC SS : Nat}
/-- the run from T, with the frame g on top, ends as G wants it -/
def Win (p : Program) (e : Env) (below : List Frame) (G : Outcome → State → Prop) (T : State) (g : JFrame) : Prop :=
  ∃ s₂ o, Steps p.tables e below (T.setTop g) s₂ ∧ s₂.status = .running ∧ Ended s₂ below o ∧ G o s₂
theorem Win.st (W : Win p e below G T' g') (st : ∀ t, Steps p.tables e below (T'.setTop g') t → Steps p.tables e below (T.setTop g) t) : Win p e below G T g := by
  obtain ⟨s2, o, h1, h2⟩ := W
  exact ⟨s2, o, st _ h1, h2⟩
theorem Win.tr (W : Win p e below G T' g') (st : Steps p.tables e below (T.setTop g) (T'.setTop g')) : Win p e below G T g := by
  obtain ⟨s2, o, h1, h2⟩ := W
  exact ⟨s2, o, st.trans h1, h2⟩
/-- how a body ends: it returned v, Q of the value and the heap, the frame -/
def Ends (s : State) (Q : Option Value → Heap → List Loc → Prop) (CC SS : Nat) (o : Outcome) (U : State) : Prop := ∃ v L, o = .returned v ∧ Q v U.heap L ∧ FrameEnd s o U L CC SS
theorem Win.ret (X : Stand p l e R s m args below meth c T locs cells slots) (hx : p.tables.exec = Jvm.exec) (hlk : meth.locks = false) (eT : T.heap = h) {pc : Nat} {Ls : Array Slot} {w : Value} {t : FieldType} {i : Instr} {rest : List Value} (hret : meth.sig.returnType = some t) (hn : narrow t w = w)
    (hi : (i = .ireturn ∧ (t = .int ∨ t = .boolean ∨ t = .byte ∨ t = .char ∨ t = .short) ∧ ∃ z, w = .int z) ∨ (i = .lreturn ∧ t = .long ∧ ∃ z, w = .long z) ∨ (i = .dreturn ∧ t = .double ∧ ∃ z, w = .double z) ∨ (i = .freturn ∧ t = .float ∧ ∃ z, w = .float z) ∨ (i = .areturn ∧ t.isReference = true ∧ w.isRef = true))
    (hd : decode c.code pc = .ok (i, 1)) (hc : cells ≤ CC) (hs : slots ≤ SS) (hQ : Q (some w) h locs) : Win p e below (Ends s Q CC SS) T (mkF m pc Ls (w :: rest)) := by
  obtain ⟨fs, hr, hrun, hended, hW, hsame⟩ := X.leave (v := some w) (fun h => by rw [hret] at h; cases h) hlk
  subst eT
  exact ⟨_, _, retOut X hx hret hn hi hd hr, hrun, hended, _, _, rfl, hQ, ⟨_, rfl⟩, hW, hsame.mono hc hs⟩
theorem Win.retN (X : Stand p l e R s m args below meth c T locs cells slots) (hx : p.tables.exec = Jvm.exec) (hlk : meth.locks = false) (eT : T.heap = h) {pc : Nat} {Ls : Array Slot} {z z' : Int32} {t : FieldType} {rest : List Value} (hret : meth.sig.returnType = some t) (ht : t = .boolean ∨ t = .byte ∨ t = .char ∨ t = .short)
    (hd : decode c.code pc = .ok (.ireturn, 1)) (hc : cells ≤ CC) (hs : slots ≤ SS) (hz : nar t z = z') (hQ : Q (some (.int z')) h locs) : Win p e below (Ends s Q CC SS) T (mkF m pc Ls (.int z :: rest)) := by
  subst hz
  obtain ⟨fs, hr, hrun, hended, hW, hsame⟩ := X.leave (v := some (.int (nar t z))) (fun h => by rw [hret] at h; cases h) hlk
  subst eT
  exact ⟨_, _, Jvm.RoadKit.retN X hx hret ht hd hr, hrun, hended, _, _, rfl, hQ, ⟨_, rfl⟩, hW, hsame.mono hc hs⟩
theorem Win.retV (X : Stand p l e R s m args below meth c T locs cells slots) (hx : p.tables.exec = Jvm.exec) (hlk : meth.locks = false) (eT : T.heap = h) {pc : Nat} {Ls : Array Slot} (hret : meth.sig.returnType = none)
    (hd : decode c.code pc = .ok (.return_, 1)) (hc : cells ≤ CC) (hs : slots ≤ SS) (hQ : Q none h locs) : Win p e below (Ends s Q CC SS) T (mkF m pc Ls []) := by
  obtain ⟨fs, hr, hrun, hended, hW, hsame⟩ := X.leave (v := none) (fun _ => rfl) hlk
  subst eT
  exact ⟨_, _, X.returnOut hx hret hd hr, hrun, hended, _, _, rfl, hQ, ⟨_, rfl⟩, hW, hsame.mono hc hs⟩
theorem own_hide {k : Nat} {sl : Nat} (X : Stand p l e R s m args below meth c T (locs ++ [⟨a, sl⟩]) cells slots) (N : Fr k locs) (q : k ≤ a) : ∃ L, Stand p l e R s m args below meth c T L cells slots ∧ Fr k L := ⟨_, X, Fr.snoc X N q⟩
theorem own_kext (E : Ext h h') : Keep h h' [] := (Keep.refl h []).ext E
theorem own_new {x : Addr} (g : b = h.size) (q : x < h.size) : x ≠ b := Nat.ne_of_lt (g ▸ q)
theorem own_newle (Z0 : n0 ≤ h.size) (g : b = h.size) : n0 ≤ b := g ▸ Z0
theorem own_len {k : ClassId} {ty : FieldType} {z : Int32} {vs : List Value} {dv : Value} (V : Arv Z h a k ty z vs dv) : ¬ z < 0 := by obtain ⟨_, _, _, _, q, _⟩ := V; exact q
theorem own_alen {k : ClassId} {ty : FieldType} {z : Int32} {vs : List Value} {dv : Value} (X : Stand p l e R s m args below meth c T locs cells slots) (hx : p.tables.exec = Jvm.exec) (hZ : Z.Warmed39 s.vm) (eT : T.heap = h) (V : Arv Z h a k ty z vs dv) {rest : List Value} (hg : g.method = m) (hs : g.stack = .ref a :: rest) (hd : decode c.code g.pc = .ok (.arraylength, 1)) :
    ∀ target, Steps p.tables e below (T.setTop { g with pc := g.pc + 1, stack := .int z :: rest }) target → Steps p.tables e below (T.setTop g) target := by
  obtain ⟨cl, A, -, S, q, -, -⟩ := V
  intro t k
  refine X.arraylength hx (by rw [eT]; exact A.1) (State.isArrayOf_alike hZ.alike A.2.1) hg hs hd _ ?_
  rw [len_of S q]; exact k
theorem own_iald {k : ClassId} {z : Int32} {vs : List Value} {dv : Value} (X : Stand p l e R s m args below meth c T locs cells slots) (hx : p.tables.exec = Jvm.exec) (hZ : Z.Warmed39 s.vm) (eT : T.heap = h) (V : Arv Z h a k .int z vs dv) {j : Int32} {v : Value} (h1 : ¬ j < 0) (h2 : j < z) (hv : vs.getD j.toNatClampNeg dv = v) {rest : List Value} (hg : g.method = m) (hs : g.stack = .int j :: .ref a :: rest) (hd : decode c.code g.pc = .ok (.iaload, 1)) :
    ∀ target, Steps p.tables e below (T.setTop { g with pc := g.pc + 1, stack := v :: rest }) target → Steps p.tables e below (T.setTop g) target := by
  obtain ⟨cl, A, -, S, q, H, -⟩ := V
  have hin := inb_of S ⟨h1, h2⟩
  exact X.iaload hx (by rw [eT]; exact A.1) (State.isArrayOf_alike hZ.alike A.2.1) A.2.2 hin (H.at hin hv) hg hs hd
theorem own_bald {k : ClassId} {z : Int32} {vs : List Value} {dv : Value} (X : Stand p l e R s m args below meth c T locs cells slots) (hx : p.tables.exec = Jvm.exec) (hZ : Z.Warmed39 s.vm) (eT : T.heap = h) (V : Arv Z h a k .byte z vs dv) {j : Int32} {v : Value} (h1 : ¬ j < 0) (h2 : j < z) (hv : vs.getD j.toNatClampNeg dv = v) {rest : List Value} (hg : g.method = m) (hs : g.stack = .int j :: .ref a :: rest) (hd : decode c.code g.pc = .ok (.baload, 1)) :
    ∀ target, Steps p.tables e below (T.setTop { g with pc := g.pc + 1, stack := v :: rest }) target → Steps p.tables e below (T.setTop g) target := by
  obtain ⟨cl, A, -, S, q, H, -⟩ := V
  have hin := inb_of S ⟨h1, h2⟩
  exact X.baloadBytes hx (by rw [eT]; exact A.1) (State.isArrayOf_alike hZ.alike A.2.1) A.2.2 hin (H.at hin hv) hg hs hd
theorem own_cald {k : ClassId} {z : Int32} {vs : List Value} {dv : Value} (X : Stand p l e R s m args below meth c T locs cells slots) (hx : p.tables.exec = Jvm.exec) (hZ : Z.Warmed39 s.vm) (eT : T.heap = h) (V : Arv Z h a k .char z vs dv) {j : Int32} {v : Value} (h1 : ¬ j < 0) (h2 : j < z) (hv : vs.getD j.toNatClampNeg dv = v) {rest : List Value} (hg : g.method = m) (hs : g.stack = .int j :: .ref a :: rest) (hd : decode c.code g.pc = .ok (.caload, 1)) :
    ∀ target, Steps p.tables e below (T.setTop { g with pc := g.pc + 1, stack := v :: rest }) target → Steps p.tables e below (T.setTop g) target := by
  obtain ⟨cl, A, -, S, q, H, -⟩ := V
  have hin := inb_of S ⟨h1, h2⟩
  exact X.caload hx (by rw [eT]; exact A.1) (State.isArrayOf_alike hZ.alike A.2.1) A.2.2 hin (H.at hin hv) hg hs hd
theorem own_cast {k : ClassId} {z : Int32} {vs : List Value} {dv : Value} (X : Stand p l e R s m args below meth c T locs cells slots) (hx : p.tables.exec = Jvm.exec) (hZ : Z.Warmed39 s.vm) (eT : T.heap = h) (N : Fr n0 locs) (ge : n0 ≤ a) (V : Arv Z h a k .char z vs dv) {j x : Int32} (h1 : ¬ j < 0) (h2 : j < z) {i : Nat} (hj : j.toNatClampNeg = i) (hi : i < vs.length) {rest : List Value} (hg : g.method = m) (hs : g.stack = .int x :: .int j :: .ref a :: rest) (hd : decode c.code g.pc = .ok (.castore, 1)) :
    ∃ T' h' L, Stand p l e R s m args below meth c T' L cells slots ∧ Fr n0 L ∧ T'.heap = h' ∧ Keep h h' [a] ∧ Arv Z h' a k .char z (vs.set i (.int (x.toUInt32.toUInt16.toUInt32.toInt32))) dv ∧ ∀ target, Steps p.tables e below (T'.setTop { g with pc := g.pc + 1, stack := rest }) target → Steps p.tables e below (T.setTop g) target := by
  obtain ⟨cl, A, q1, S, q, H, Gf⟩ := V
  have hin := inb_of S ⟨h1, h2⟩
  obtain ⟨T', h', X', e', W, st⟩ := stC X hx hZ eT A hin hg hs hd
  exact ⟨T', h', _, X', Fr.snoc X' N ge, e', Keep.of_wr W, Arv.set A q1 S q H Gf (fits_nar_char x) W i hj hi, st⟩
theorem own_iast {k : ClassId} {z : Int32} {vs : List Value} {dv : Value} (X : Stand p l e R s m args below meth c T locs cells slots) (hx : p.tables.exec = Jvm.exec) (hZ : Z.Warmed39 s.vm) (eT : T.heap = h) (N : Fr n0 locs) (ge : n0 ≤ a) (V : Arv Z h a k .int z vs dv) {j x : Int32} (h1 : ¬ j < 0) (h2 : j < z) {i : Nat} (hj : j.toNatClampNeg = i) (hi : i < vs.length) {rest : List Value} (hg : g.method = m) (hs : g.stack = .int x :: .int j :: .ref a :: rest) (hd : decode c.code g.pc = .ok (.iastore, 1)) :
    ∃ T' h' L, Stand p l e R s m args below meth c T' L cells slots ∧ Fr n0 L ∧ T'.heap = h' ∧ Keep h h' [a] ∧ Arv Z h' a k .int z (vs.set i (.int x)) dv ∧ ∀ target, Steps p.tables e below (T'.setTop { g with pc := g.pc + 1, stack := rest }) target → Steps p.tables e below (T.setTop g) target := by
  obtain ⟨cl, A, q1, S, q, H, Gf⟩ := V
  have hin := inb_of S ⟨h1, h2⟩
  obtain ⟨T', h', X', e', W, st⟩ := stI X hx hZ eT A hin hg hs hd
  exact ⟨T', h', _, X', Fr.snoc X' N ge, e', Keep.of_wr W, Arv.set A q1 S q H Gf rfl W i hj hi, st⟩
theorem own_bast {k : ClassId} {z : Int32} {vs : List Value} {dv : Value} (X : Stand p l e R s m args below meth c T locs cells slots) (hx : p.tables.exec = Jvm.exec) (hZ : Z.Warmed39 s.vm) (eT : T.heap = h) (N : Fr n0 locs) (ge : n0 ≤ a) (V : Arv Z h a k .byte z vs dv) {j x : Int32} (h1 : ¬ j < 0) (h2 : j < z) {i : Nat} (hj : j.toNatClampNeg = i) (hi : i < vs.length) {rest : List Value} (hg : g.method = m) (hs : g.stack = .int x :: .int j :: .ref a :: rest) (hd : decode c.code g.pc = .ok (.bastore, 1)) :
    ∃ T' h' L, Stand p l e R s m args below meth c T' L cells slots ∧ Fr n0 L ∧ T'.heap = h' ∧ Keep h h' [a] ∧ Arv Z h' a k .byte z (vs.set i (.int x.toInt8.toInt32)) dv ∧ ∀ target, Steps p.tables e below (T'.setTop { g with pc := g.pc + 1, stack := rest }) target → Steps p.tables e below (T.setTop g) target := by
  obtain ⟨cl, A, q1, S, q, H, Gf⟩ := V
  have hin := inb_of S ⟨h1, h2⟩
  obtain ⟨T', h', X', e', W, st⟩ := stB X hx hZ eT A hin hg hs hd
  exact ⟨T', h', _, X', Fr.snoc X' N ge, e', Keep.of_wr W, Arv.set A q1 S q H Gf (fits_nar_byte x) W i hj hi, st⟩
/-- how a body ends that may have interned a String -/
def EndsW (s : State) (Q : Option Value → Heap → List Loc → Prop) (CC SS : Nat) (o : Outcome) (U : State) : Prop := ∃ v L, o = .returned v ∧ Q v U.heap L ∧ ReturnedEndW s o U L CC SS
theorem Win.retNW {vm₁ : Vm} {k1 : Nat} (X : Stand p l e R (s.setVm vm₁) m args below meth c T locs cells slots) (hS : s.Since vm₁ k1) (hk : k1 ≤ h.size) (hx : p.tables.exec = Jvm.exec) (hlk : meth.locks = false) (eT : T.heap = h) {pc : Nat} {Ls : Array Slot} {z z' : Int32} {t : FieldType} {rest : List Value} (hret : meth.sig.returnType = some t) (ht : t = .boolean ∨ t = .byte ∨ t = .char ∨ t = .short)
    (hd : decode c.code pc = .ok (.ireturn, 1)) (hc : cells ≤ CC) (hs : slots ≤ SS) (hz : nar t z = z') (hQ : Q (some (.int z')) h locs) : Win p e below (EndsW s Q CC SS) T (mkF m pc Ls (.int z :: rest)) := by
  subst hz
  subst eT
  obtain ⟨fs, hr, hrun, hended, h1, h2, h3, h4⟩ := X.leaveW hS hk (v := some (.int (nar t z))) (fun h => by rw [hret] at h; cases h) hlk
  exact ⟨_, _, Jvm.RoadKit.retN X hx hret ht hd hr, hrun, hended, _, _, rfl, hQ, h1, h2, h3, h4.mono hc hs⟩
theorem Win.retVW {vm₁ : Vm} {k1 : Nat} (X : Stand p l e R (s.setVm vm₁) m args below meth c T locs cells slots) (hS : s.Since vm₁ k1) (hk : k1 ≤ h.size) (hx : p.tables.exec = Jvm.exec) (hlk : meth.locks = false) (eT : T.heap = h) {pc : Nat} {Ls : Array Slot} (hret : meth.sig.returnType = none)
    (hd : decode c.code pc = .ok (.return_, 1)) (hc : cells ≤ CC) (hs : slots ≤ SS) (hQ : Q none h locs) : Win p e below (EndsW s Q CC SS) T (mkF m pc Ls []) := by
  subst eT
  obtain ⟨fs, hr, hrun, hended, h1, h2, h3, h4⟩ := X.leaveW hS hk (v := none) (fun _ => rfl) hlk
  exact ⟨_, _, X.returnOut hx hret hd hr, hrun, hended, _, _, rfl, hQ, h1, h2, h3, h4.mono hc hs⟩
theorem Win.retRW {vm₁ : Vm} {k1 : Nat} (X : Stand p l e R (s.setVm vm₁) m args below meth c T locs cells slots) (hS : s.Since vm₁ k1) (hk : k1 ≤ h.size) (hx : p.tables.exec = Jvm.exec) (hlk : meth.locks = false) (eT : T.heap = h) {pc : Nat} {Ls : Array Slot} {w : Value} {t : FieldType} {rest : List Value} (hret : meth.sig.returnType = some t) (ht : t.isReference = true) (hw : w.isRef = true) (hn : narrow t w = w)
    (hd : decode c.code pc = .ok (.areturn, 1)) (hc : cells ≤ CC) (hs : slots ≤ SS) (hQ : Q (some w) h locs) : Win p e below (EndsW s Q CC SS) T (mkF m pc Ls (w :: rest)) := by
  subst eT
  obtain ⟨fs, hr, hrun, hended, h1, h2, h3, h4⟩ := X.leaveW hS hk (v := some w) (fun h => by rw [hret] at h; cases h) hlk
  exact ⟨_, _, retOut X hx hret hn (Or.inr (Or.inr (Or.inr (Or.inr ⟨rfl, ht, hw⟩)))) hd hr, hrun, hended, _, _, rfl, hQ, h1, h2, h3, h4.mono hc hs⟩
/-- RoadKit's backOfSH for a callee that asks the invariant and doesn't give it back -/
theorem own_backOfSP {a0 : Array Value} {EL : List (String × Nat)} {vm0 : Vm} {y : MethodName} {bytes : ByteArray} {maxL : Nat} {ret : Option FieldType} {rm : Room} {len W : Nat} {as' : Array Value} {Q : Option Value → Heap → List Loc → Prop}
    (hM : MetFree l y (head1 [Jvm.Cond.code y bytes maxL ret] rm) (fun a U => a = as' ∧ Z.Warmed39 U.vm ∧ U.heap = h ∧ CHv Z EL U.vm h) (fun _ _ _ _ _ => True) (fun _ U o U' => ∃ v L, o = .returned v ∧ Q v U'.heap L ∧ ReturnedEndW U o U' L rm.cells rm.slots))
    (hZ : Z.Warmed39 vm0) (wc : (Jvm.Cond.code y bytes maxL ret).before a0 Z = true) (wz : (Jvm.Cond.initialized y.cls).before a0 Z = true) (hf : rm.frames + 1 ≤ R.frames) (hl : W + (maxL + 11) + rm.locals ≤ R.locals) (hEL : EW Z a0 EL) (H : CHv Z EL vm0 h) :
    BackS l R p e below (s.setVm vm0) args y len W (fun A a => a = as' ∧ A.U.heap = h ∧ A.cells + rm.cells ≤ R.cells ∧ A.slots + rm.slots ≤ R.slots)
      (fun A _ v B => ∃ L, Q v B.U.heap L ∧ B.locs = A.locs ++ L ∧ B.cells = A.cells + rm.cells ∧ B.slots = A.slots + rm.slots) :=
  BackS.of_freeW (bytes := bytes) (maxL := maxL) (ret := ret) (E := fun _ _ o t L k n => k = rm.cells ∧ n = rm.slots ∧ ∃ v, o = .returned v ∧ Q v t.heap L) hM hf hl
    (fun m meth c A a Y hp => have hU : Z.Warmed39 A.U.vm := wtrans (s := s.setVm vm0) hZ Y.warmed
      ⟨by show (Jvm.Cond.and _ .tt).before a A.U = true; rw [Cond.before_and, mv hU wc]; rfl, mv hU wc, mv hU wz, hp.2.2.1, hp.2.2.2⟩)
    (fun m meth c A a g mk Y hp => ⟨hp.1, wtrans (s := s.setVm vm0) hZ Y.warmed, hp.2.1, (CHv.at Y hZ hEL H).1⟩) (fun _ _ _ _ _ _ _ _ _ => trivial)
    (fun _ _ _ _ ⟨v, L, h1, h2, h3⟩ => ⟨L, _, _, h3, rfl, rfl, v, h1, h2⟩)
    (fun m meth c A a g mk v t L k n Y hp _ _ ⟨e1, e2, v', e3, e4⟩ => by cases e3; subst e1 e2; exact ⟨L, e4, rfl, rfl, rfl⟩)
theorem own_sta_keep {C n d : String} {v : Value} (F : Sta Z h C n d v) (K : Keep h h' []) : Sta Z h' C n d v := by
  obtain ⟨cf, i, k, f, st, cell, h1, h2, h3, h4, h5, r⟩ := F
  exact ⟨cf, i, k, f, st, cell, h1, h2, h3, h4, K.2.1 _ _ h5 nin0, r⟩
theorem own_nar_ref {u : Value} {C : String} (hu : u.isRef = true) : narrow (.object C) u = u := by rcases ref_cases hu with rfl | ⟨z, rfl⟩ <;> rfl
theorem own_fit_ref {u : Value} {C : String} (hu : u.isRef = true) : fits (.object C) u = true := by rcases ref_cases hu with rfl | ⟨z, rfl⟩ <;> rfl
theorem own_no {a0 : Array Value} {C K O : String} {n : Nat} (w : (Jvm.Cond.superclass C O).before a0 Z = true) (wo : (Jvm.Cond.noSuperclass O).before a0 Z = true) (wk : (Jvm.Cond.instantiable K n).before a0 Z = true) (h1 : C ≠ K) (h2 : O ≠ K) : ∃ c t, Z.vm.findClass C = some c ∧ Z.vm.findClass K = some t ∧ Z.vm.assignable c t = false := by
  obtain ⟨o, ko, o1, o2, o3, -, -⟩ := Cond.noSuperclass_spec wo
  obtain ⟨t, kt, t1, t2, t3, t4, -⟩ := Cond.instantiable_spec wk
  obtain ⟨c, c0⟩ := found_sup w
  obtain ⟨p, k, kp, p1, p2, p3, p4, p5, -, p7⟩ := Cond.superclass_spec c0 w
  cases o1.symm.trans p1
  have ne1 := ids_ne c0 t1 h1
  have ne2 := ids_ne o1 t1 h2
  simp only [Bool.or_eq_false_iff] at t4
  have n3 : ∀ fuel, Z.vm.isSubclassAux fuel c t = false := fun fuel => by
    match fuel with
    | 0 => rfl
    | 1 => simp [Vm.isSubclassAux, ne1, p2, p4]
    | f + 2 => simp [Vm.isSubclassAux, ne1, ne2, p2, p4, o2, o3]
  refine ⟨c, t, c0, t1, ?_⟩
  show Z.vm.assignableAux (255 + 1) c t = false
  simp [Vm.assignableAux, ne1, p2, t2, p5, t3, t4.1, Vm.isSubclass, n3]
theorem own_selp {y : MethodName} {n : Nat} (hi : (Jvm.Cond.instantiable y.cls n).before args s = true) (hp : s.PrivateAt y) (hm : (Jvm.Cond.instanceMethod y).before args s = true) (hy : y.cls ≠ "java/lang/invoke/MethodHandle" ∧ y.cls ≠ "java/lang/invoke/VarHandle") : (Jvm.Cond.selects y.cls y y).before args s = true := by
  obtain ⟨c, k, h1, h2, h3, h4, -⟩ := Cond.instantiable_spec hi
  exact selects_self_of_private h1 h2 (by simp only [Bool.or_eq_false_iff] at h4; exact h4.1) hp hm hy
end Own

theorem own_b8 (y : Int32) : (y.toInt8.toInt32).toInt8.toInt32 = y.toInt8.toInt32 := by simp
theorem own_lt {x y : Int32} (h : x.toInt < y.toInt) : x < y := Int32.lt_iff_toInt_lt.mpr h
theorem own_nlt {x y : Int32} (h : y.toInt ≤ x.toInt) : ¬ x < y := fun q => by have := Int32.lt_iff_toInt_lt.mp q; omega
theorem own_of_nlt {x y : Int32} (h : ¬ x < y) : y.toInt ≤ x.toInt := by rw [Int32.lt_iff_toInt_lt] at h; omega
theorem own_i0 : (0 : Int32).toInt = 0 := by decide
theorem own_i255 : (255 : Int32).toInt = 255 := by decide
theorem own_i256 : (256 : Int32).toInt = 256 := by decide
def own_max (x y : Int32) : Int32 := if x < y then y else x
def own_pick (sel k o c f g : Int32) : Int32 := if (((sel.toUInt32 >>> (((2 : Int32) * k) &&& 31).toUInt32).toInt32) &&& (3 : Int32)) = 0 then o else if (((sel.toUInt32 >>> (((2 : Int32) * k) &&& 31).toUInt32).toInt32) &&& (3 : Int32)) = 1 then c else if (((sel.toUInt32 >>> (((2 : Int32) * k) &&& 31).toUInt32).toInt32) &&& (3 : Int32)) = 2 then f else g
/-- a value of a byte -/
def own_B (x : Int32) : Prop := 0 ≤ x.toInt ∧ x.toInt ≤ 255
theorem own_pickB {sel k o c f g : Int32} (h1 : own_B o) (h2 : own_B c) (h3 : own_B f) (h4 : own_B g) : own_B (own_pick sel k o c f g) := by
  unfold own_pick
  split
  · exact h1
  · split
    · exact h2
    · split
      · exact h3
      · exact h4
theorem own_maskB (x : Int32) : own_B (x &&& 255) := by
  have q := c_mask x 255 8 (by decide) (by decide)
  unfold own_B; omega
/-- what one byte is worth -/
def own_s (o c x : Int32) : Int32 := if x = c then -1 else if x = o then 1 else 0
def own_fd (n k d s : Int32) : Int32 := if k < n then d + s else d
def own_fm (n k d m s : Int32) : Int32 := if k < n then own_max m (d + s) else m
theorem own_byte {x : Int32} (h : own_B x) : (x.toInt8.toInt32 &&& (255 : Int32)) = x := by
  have q := c_mask x.toInt8.toInt32 255 8 (by decide) (by decide)
  have r := c_i2b x
  refine Int32.toInt_inj.mp ?_
  obtain ⟨a, b⟩ := h
  omega
theorem own_char {x : Int32} (h : own_B x) : x.toUInt32.toUInt16.toUInt32.toInt32 = x := by
  have r := c_i2c x
  refine Int32.toInt_inj.mp ?_
  obtain ⟨a, b⟩ := h
  omega
theorem own_nat {x : Int32} (h : own_B x) : (x.toNatClampNeg : Int) = x.toInt := (nat_of (own_nlt (by rw [own_i0]; exact h.1))).symm
theorem own_set_same {vs : List Value} {i : Nat} {v d : Value} (h : i < vs.length) : (vs.set i v).getD i d = v := by simp [List.getD, h]
theorem own_set_ne {vs : List Value} {i j : Nat} {v d : Value} (h : i ≠ j) : (vs.set i v).getD j d = vs.getD j d := by simp [List.getD, List.getElem?_set, h]
/-- the table of steps: +1 at o, then -1 at c -/
def own_tab (o c : Int32) : List Value := ((List.replicate 256 (.int (0 : Int32))).set o.toNatClampNeg (.int (1 : Int32))).set c.toNatClampNeg (.int (-1 : Int32))
theorem own_tab_at {o c x : Int32} (ho : own_B o) (hc : own_B c) (hx : own_B x) : (own_tab o c).getD x.toNatClampNeg (.int (0 : Int32)) = .int (own_s o c x) := by
  have a := own_nat ho
  have b := own_nat hc
  have d := own_nat hx
  obtain ⟨o1, o2⟩ := ho
  obtain ⟨c1, c2⟩ := hc
  obtain ⟨x1, x2⟩ := hx
  unfold own_tab own_s
  by_cases e : x = c
  · subst e
    rw [if_pos rfl, own_set_same (by rw [List.length_set, List.length_replicate]; omega)]
  · have e' : x.toInt ≠ c.toInt := fun q => e (Int32.toInt_inj.mp q)
    rw [if_neg e, own_set_ne (by omega)]
    by_cases f : x = o
    · subst f
      rw [if_pos rfl, own_set_same (by rw [List.length_replicate]; omega)]
    · have f' : x.toInt ≠ o.toInt := fun q => f (Int32.toInt_inj.mp q)
      rw [if_neg f, own_set_ne (by omega)]
      simp only [List.getD, List.getElem?_replicate]
      split <;> rfl
theorem own_five (x : Int32) : (x &&& 2147483647) % 5 = 0 ∨ (x &&& 2147483647) % 5 = 1 ∨ (x &&& 2147483647) % 5 = 2 ∨ (x &&& 2147483647) % 5 = 3 ∨ (x &&& 2147483647) % 5 = 4 := by
  have q := c_mask x 2147483647 31 (by decide) (by decide)
  have r := (c_irem (x &&& 2147483647) 5 5 (by decide)).1 (by omega)
  have t : ((x &&& 2147483647) % 5).toInt = 0 ∨ ((x &&& 2147483647) % 5).toInt = 1 ∨ ((x &&& 2147483647) % 5).toInt = 2 ∨ ((x &&& 2147483647) % 5).toInt = 3 ∨ ((x &&& 2147483647) % 5).toInt = 4 := by omega
  rcases t with t | t | t | t | t
  · exact Or.inl (Int32.toInt_inj.mp (t.trans (by decide)))
  · exact Or.inr (Or.inl (Int32.toInt_inj.mp (t.trans (by decide))))
  · exact Or.inr (Or.inr (Or.inl (Int32.toInt_inj.mp (t.trans (by decide)))))
  · exact Or.inr (Or.inr (Or.inr (Or.inl (Int32.toInt_inj.mp (t.trans (by decide))))))
  · exact Or.inr (Or.inr (Or.inr (Or.inr (Int32.toInt_inj.mp (t.trans (by decide))))))


theorem own_shr0 (z : Int32) : z >>> ((0 : Int32) &&& 31) = z := by
  refine Int32.toInt_inj.mp ?_
  rw [c_ishr z 0 0 (by decide)]
  simp
theorem own_narc (b : Int32) : nar .char ((b &&& (255 : Int32)).toUInt32.toUInt16.toUInt32.toInt32) = b &&& 255 := by
  show ((b &&& 255).toUInt32.toUInt16.toUInt32.toInt32).toUInt32.toUInt16.toUInt32.toInt32 = _
  rw [i2c_mask, i2c_mask]
theorem own_narc1 (b : Int32) : nar .char (b &&& (255 : Int32)) = b &&& 255 := i2c_mask b

theorem d_method_3_0 : decode method_3_code 0 = .ok (.iload_n 0, 1) := by decide +kernel
theorem d_method_3_1 : decode method_3_code 1 = .ok (.iconst 2, 1) := by decide +kernel
theorem d_method_3_2 : decode method_3_code 2 = .ok (.iload_n 1, 1) := by decide +kernel
theorem d_method_3_3 : decode method_3_code 3 = .ok (.imul, 1) := by decide +kernel
theorem d_method_3_4 : decode method_3_code 4 = .ok (.iushr, 1) := by decide +kernel
theorem d_method_3_5 : decode method_3_code 5 = .ok (.iconst 3, 1) := by decide +kernel
theorem d_method_3_6 : decode method_3_code 6 = .ok (.iand, 1) := by decide +kernel
theorem d_method_3_7 : decode method_3_code 7 = .ok (.istore 6, 2) := by decide +kernel
theorem d_method_3_9 : decode method_3_code 9 = .ok (.iload 6, 2) := by decide +kernel
theorem d_method_3_11 : decode method_3_code 11 = .ok (.ifCond .ne 5, 3) := by decide +kernel
theorem d_method_3_14 : decode method_3_code 14 = .ok (.iload_n 2, 1) := by decide +kernel
theorem d_method_3_15 : decode method_3_code 15 = .ok (.ireturn, 1) := by decide +kernel
theorem d_method_3_16 : decode method_3_code 16 = .ok (.iload 6, 2) := by decide +kernel
theorem d_method_3_18 : decode method_3_code 18 = .ok (.iconst 1, 1) := by decide +kernel
theorem d_method_3_19 : decode method_3_code 19 = .ok (.if_icmp .ne 5, 3) := by decide +kernel
theorem d_method_3_22 : decode method_3_code 22 = .ok (.iload_n 3, 1) := by decide +kernel
theorem d_method_3_23 : decode method_3_code 23 = .ok (.ireturn, 1) := by decide +kernel
theorem d_method_3_24 : decode method_3_code 24 = .ok (.iload 6, 2) := by decide +kernel
theorem d_method_3_26 : decode method_3_code 26 = .ok (.iconst 2, 1) := by decide +kernel
theorem d_method_3_27 : decode method_3_code 27 = .ok (.if_icmp .ne 6, 3) := by decide +kernel
theorem d_method_3_30 : decode method_3_code 30 = .ok (.iload 4, 2) := by decide +kernel
theorem d_method_3_32 : decode method_3_code 32 = .ok (.ireturn, 1) := by decide +kernel
theorem d_method_3_33 : decode method_3_code 33 = .ok (.iload 5, 2) := by decide +kernel
theorem d_method_3_35 : decode method_3_code 35 = .ok (.ireturn, 1) := by decide +kernel
theorem pn_0 : plainName "com/example/modest_tableau/modesttableau/document/BracketDepthAddPinLaw" = true := by first | (simp [plainName, overriddenIn]; done) | decide +kernel
theorem ef_pick (mt : MethodId) (sel : Int32) (k_ : Int32) (o : Int32) (c : Int32) (f : Int32) (g : Int32) : entryFrame mt #[(.int sel), (.int k_), (.int o), (.int c), (.int f), (.int g)] 7 = mkF mt 0 #[.val (.int sel), .val (.int k_), .val (.int o), .val (.int c), .val (.int f), .val (.int g), .unset] [] := by first | (simp [entryFrame, mkF, argsToLocals, Value.category]; done) | rfl
def Q_pick (Z : State) (sel : Int32) (k_ : Int32) (o : Int32) (c : Int32) (f : Int32) (g : Int32) (h0 : Heap) (n0 : Nat) (v : Option Value) (h : Heap) (L : List Loc) : Prop := v = some (.int (own_pick sel k_ o c f g)) ∧ Fr n0 L ∧ h = h0
set_option maxRecDepth 65536 in
set_option maxHeartbeats 40000000 in
theorem rm_pick (l : Launch) (Z : State) (a0 : Array Value) (hw : ∀ d ∈ tables_1, d.before a0 Z = true) (ws : List Jvm.Cond) (sel : Int32) (k_ : Int32) (o : Int32) (c : Int32) (f : Int32) (g : Int32) (h0 : Heap) (n0 : Nat) (Z0 : n0 ≤ h0.size) :
    MetFree l (⟨"com/example/modest_tableau/modesttableau/document/BracketDepthAddPinLaw", "pick", "(IIIIII)I"⟩ : MethodName) (head1 (Jvm.Cond.code (⟨"com/example/modest_tableau/modesttableau/document/BracketDepthAddPinLaw", "pick", "(IIIIII)I"⟩ : MethodName) method_3_code 7 (some .int) :: ws) ({ frames := 0, cells := 0, slots := 0, locals := 0 } : Room)) (fun aa UU => aa = #[(.int sel), (.int k_), (.int o), (.int c), (.int f), (.int g)] ∧ Z.Warmed39 UU.vm ∧ UU.heap = h0) (fun _ _ _ _ _ => True) (fun _ UU oo UU' => ∃ vv LL, oo = .returned vv ∧ Q_pick Z sel k_ o c f g h0 n0 vv UU'.heap LL ∧ FrameEnd UU oo UU' LL ({ frames := 0, cells := 0, slots := 0, locals := 0 } : Room).cells ({ frames := 0, cells := 0, slots := 0, locals := 0 } : Room).slots) := by
  refine MetFree.of_bodySF (plainFor_of_name pn_0) hisR ?_
  intro p e s mt args below meth cd s₁ Bd hml0 hP hK
  obtain ⟨hA, hZ, hh⟩ := hP
  have hx := Bd.exec
  have hby := Bd.bytes
  have hml : cd.maxLocals = 7 := hml0
  have hown : s.vm.findClass "com/example/modest_tableau/modesttableau/document/BracketDepthAddPinLaw" = some mt.cls := findClass_of_methodNamed Bd.named
  have hnm := (name_of_methodNamed Bd.named Bd.method).1
  have hlk : meth.locks = false := BodyLoose.notSynchronized Bd
  have hrt := Bd.returns
  have X0 : Stand p l e ({ frames := 0, cells := 0, slots := 0, locals := 0 } : Room) s mt args below meth cd s₁ [] 0 0 := Stand.of_body Bd
  have e0 : s₁.heap = h0 := by rw [← hh, Bd.state]; rfl
  have N0 := Fr.nil n0
  show Win p e below (Ends s (Q_pick Z sel k_ o c f g h0 n0) ({ frames := 0, cells := 0, slots := 0, locals := 0 } : Room).cells ({ frames := 0, cells := 0, slots := 0, locals := 0 } : Room).slots) s₁ (entryFrame mt args 7)
  rw [hA, ef_pick]
  refine Win.st ?_ (fun tq kq => XS.iloadN X0.here hx rfl (hb hby d_method_3_0) rfl kq)
  show Win p e below _ s₁ (mkF mt 1 #[.val (.int sel), .val (.int k_), .val (.int o), .val (.int c), .val (.int f), .val (.int g), .unset] [(.int sel)])
  refine Win.st ?_ (fun tq kq => XS.iconst X0.here hx rfl (hb hby d_method_3_1) kq)
  show Win p e below _ s₁ (mkF mt 2 #[.val (.int sel), .val (.int k_), .val (.int o), .val (.int c), .val (.int f), .val (.int g), .unset] [(.int (2 : Int32)), (.int sel)])
  refine Win.st ?_ (fun tq kq => XS.iloadN X0.here hx rfl (hb hby d_method_3_2) rfl kq)
  show Win p e below _ s₁ (mkF mt 3 #[.val (.int sel), .val (.int k_), .val (.int o), .val (.int c), .val (.int f), .val (.int g), .unset] [(.int k_), (.int (2 : Int32)), (.int sel)])
  refine Win.st ?_ (fun tq kq => XS.imul X0.here hx rfl (hb hby d_method_3_3) rfl kq)
  show Win p e below _ s₁ (mkF mt 4 #[.val (.int sel), .val (.int k_), .val (.int o), .val (.int c), .val (.int f), .val (.int g), .unset] [(.int ((2 : Int32) * k_)), (.int sel)])
  refine Win.st ?_ (fun tq kq => XS.iushr X0.here hx rfl (hb hby d_method_3_4) rfl kq)
  show Win p e below _ s₁ (mkF mt 5 #[.val (.int sel), .val (.int k_), .val (.int o), .val (.int c), .val (.int f), .val (.int g), .unset] [(.int ((sel.toUInt32 >>> (((2 : Int32) * k_) &&& 31).toUInt32).toInt32))])
  refine Win.st ?_ (fun tq kq => XS.iconst X0.here hx rfl (hb hby d_method_3_5) kq)
  show Win p e below _ s₁ (mkF mt 6 #[.val (.int sel), .val (.int k_), .val (.int o), .val (.int c), .val (.int f), .val (.int g), .unset] [(.int (3 : Int32)), (.int ((sel.toUInt32 >>> (((2 : Int32) * k_) &&& 31).toUInt32).toInt32))])
  refine Win.st ?_ (fun tq kq => XS.iand X0.here hx rfl (hb hby d_method_3_6) rfl kq)
  show Win p e below _ s₁ (mkF mt 7 #[.val (.int sel), .val (.int k_), .val (.int o), .val (.int c), .val (.int f), .val (.int g), .unset] [(.int (((sel.toUInt32 >>> (((2 : Int32) * k_) &&& 31).toUInt32).toInt32) &&& (3 : Int32)))])
  refine Win.st ?_ (fun tq kq => XS.istore X0.here hx rfl (hb hby d_method_3_7) rfl (l' := #[.val (.int sel), .val (.int k_), .val (.int o), .val (.int c), .val (.int f), .val (.int g), .val (.int (((sel.toUInt32 >>> (((2 : Int32) * k_) &&& 31).toUInt32).toInt32) &&& (3 : Int32)))]) rfl kq)
  show Win p e below _ s₁ (mkF mt 9 #[.val (.int sel), .val (.int k_), .val (.int o), .val (.int c), .val (.int f), .val (.int g), .val (.int (((sel.toUInt32 >>> (((2 : Int32) * k_) &&& 31).toUInt32).toInt32) &&& (3 : Int32)))] [])
  refine Win.st ?_ (fun tq kq => XS.iload X0.here hx rfl (hb hby d_method_3_9) rfl kq)
  show Win p e below _ s₁ (mkF mt 11 #[.val (.int sel), .val (.int k_), .val (.int o), .val (.int c), .val (.int f), .val (.int g), .val (.int (((sel.toUInt32 >>> (((2 : Int32) * k_) &&& 31).toUInt32).toInt32) &&& (3 : Int32)))] [(.int (((sel.toUInt32 >>> (((2 : Int32) * k_) &&& 31).toUInt32).toInt32) &&& (3 : Int32)))])
  by_cases hc11 : (((sel.toUInt32 >>> (((2 : Int32) * k_) &&& 31).toUInt32).toInt32) &&& (3 : Int32)) = (0 : Int32)
  · refine Win.st ?_ (fun tq kq => XS.ifNo X0.here hx rfl (hb hby d_method_3_11) rfl ((if0 _ _).trans (teq hc11).2) kq)
    show Win p e below _ s₁ (mkF mt 14 #[.val (.int sel), .val (.int k_), .val (.int o), .val (.int c), .val (.int f), .val (.int g), .val (.int (((sel.toUInt32 >>> (((2 : Int32) * k_) &&& 31).toUInt32).toInt32) &&& (3 : Int32)))] [])
    refine Win.st ?_ (fun tq kq => XS.iloadN X0.here hx rfl (hb hby d_method_3_14) rfl kq)
    show Win p e below _ s₁ (mkF mt 15 #[.val (.int sel), .val (.int k_), .val (.int o), .val (.int c), .val (.int f), .val (.int g), .val (.int (((sel.toUInt32 >>> (((2 : Int32) * k_) &&& 31).toUInt32).toInt32) &&& (3 : Int32)))] [(.int o)])
    exact Win.ret X0 hx hlk e0 hrt rfl (Or.inl ⟨rfl, Or.inl rfl, _, rfl⟩) (hb hby d_method_3_15) (by decide) (by decide) ⟨by rw [own_pick, if_pos hc11], N0, rfl⟩
  · refine Win.st ?_ (fun tq kq => XS.ifYes X0.here hx rfl (pc0 := 11) (pc' := 16) rfl (hb hby d_method_3_11) rfl ((if0 _ _).trans (feq hc11).2) (by decide) (by decide) kq)
    show Win p e below _ s₁ (mkF mt 16 #[.val (.int sel), .val (.int k_), .val (.int o), .val (.int c), .val (.int f), .val (.int g), .val (.int (((sel.toUInt32 >>> (((2 : Int32) * k_) &&& 31).toUInt32).toInt32) &&& (3 : Int32)))] [])
    refine Win.st ?_ (fun tq kq => XS.iload X0.here hx rfl (hb hby d_method_3_16) rfl kq)
    show Win p e below _ s₁ (mkF mt 18 #[.val (.int sel), .val (.int k_), .val (.int o), .val (.int c), .val (.int f), .val (.int g), .val (.int (((sel.toUInt32 >>> (((2 : Int32) * k_) &&& 31).toUInt32).toInt32) &&& (3 : Int32)))] [(.int (((sel.toUInt32 >>> (((2 : Int32) * k_) &&& 31).toUInt32).toInt32) &&& (3 : Int32)))])
    refine Win.st ?_ (fun tq kq => XS.iconst X0.here hx rfl (hb hby d_method_3_18) kq)
    show Win p e below _ s₁ (mkF mt 19 #[.val (.int sel), .val (.int k_), .val (.int o), .val (.int c), .val (.int f), .val (.int g), .val (.int (((sel.toUInt32 >>> (((2 : Int32) * k_) &&& 31).toUInt32).toInt32) &&& (3 : Int32)))] [(.int (1 : Int32)), (.int (((sel.toUInt32 >>> (((2 : Int32) * k_) &&& 31).toUInt32).toInt32) &&& (3 : Int32)))])
    by_cases hc19 : (((sel.toUInt32 >>> (((2 : Int32) * k_) &&& 31).toUInt32).toInt32) &&& (3 : Int32)) = (1 : Int32)
    · refine Win.st ?_ (fun tq kq => XS.icmpNo X0.here hx rfl (hb hby d_method_3_19) rfl (teq hc19).2 kq)
      show Win p e below _ s₁ (mkF mt 22 #[.val (.int sel), .val (.int k_), .val (.int o), .val (.int c), .val (.int f), .val (.int g), .val (.int (((sel.toUInt32 >>> (((2 : Int32) * k_) &&& 31).toUInt32).toInt32) &&& (3 : Int32)))] [])
      refine Win.st ?_ (fun tq kq => XS.iloadN X0.here hx rfl (hb hby d_method_3_22) rfl kq)
      show Win p e below _ s₁ (mkF mt 23 #[.val (.int sel), .val (.int k_), .val (.int o), .val (.int c), .val (.int f), .val (.int g), .val (.int (((sel.toUInt32 >>> (((2 : Int32) * k_) &&& 31).toUInt32).toInt32) &&& (3 : Int32)))] [(.int c)])
      exact Win.ret X0 hx hlk e0 hrt rfl (Or.inl ⟨rfl, Or.inl rfl, _, rfl⟩) (hb hby d_method_3_23) (by decide) (by decide) ⟨by rw [own_pick, if_neg hc11, if_pos hc19], N0, rfl⟩
    · refine Win.st ?_ (fun tq kq => XS.icmpYes X0.here hx rfl (pc0 := 19) (pc' := 24) rfl (hb hby d_method_3_19) rfl (feq hc19).2 (by decide) (by decide) kq)
      show Win p e below _ s₁ (mkF mt 24 #[.val (.int sel), .val (.int k_), .val (.int o), .val (.int c), .val (.int f), .val (.int g), .val (.int (((sel.toUInt32 >>> (((2 : Int32) * k_) &&& 31).toUInt32).toInt32) &&& (3 : Int32)))] [])
      refine Win.st ?_ (fun tq kq => XS.iload X0.here hx rfl (hb hby d_method_3_24) rfl kq)
      show Win p e below _ s₁ (mkF mt 26 #[.val (.int sel), .val (.int k_), .val (.int o), .val (.int c), .val (.int f), .val (.int g), .val (.int (((sel.toUInt32 >>> (((2 : Int32) * k_) &&& 31).toUInt32).toInt32) &&& (3 : Int32)))] [(.int (((sel.toUInt32 >>> (((2 : Int32) * k_) &&& 31).toUInt32).toInt32) &&& (3 : Int32)))])
      refine Win.st ?_ (fun tq kq => XS.iconst X0.here hx rfl (hb hby d_method_3_26) kq)
      show Win p e below _ s₁ (mkF mt 27 #[.val (.int sel), .val (.int k_), .val (.int o), .val (.int c), .val (.int f), .val (.int g), .val (.int (((sel.toUInt32 >>> (((2 : Int32) * k_) &&& 31).toUInt32).toInt32) &&& (3 : Int32)))] [(.int (2 : Int32)), (.int (((sel.toUInt32 >>> (((2 : Int32) * k_) &&& 31).toUInt32).toInt32) &&& (3 : Int32)))])
      by_cases hc27 : (((sel.toUInt32 >>> (((2 : Int32) * k_) &&& 31).toUInt32).toInt32) &&& (3 : Int32)) = (2 : Int32)
      · refine Win.st ?_ (fun tq kq => XS.icmpNo X0.here hx rfl (hb hby d_method_3_27) rfl (teq hc27).2 kq)
        show Win p e below _ s₁ (mkF mt 30 #[.val (.int sel), .val (.int k_), .val (.int o), .val (.int c), .val (.int f), .val (.int g), .val (.int (((sel.toUInt32 >>> (((2 : Int32) * k_) &&& 31).toUInt32).toInt32) &&& (3 : Int32)))] [])
        refine Win.st ?_ (fun tq kq => XS.iload X0.here hx rfl (hb hby d_method_3_30) rfl kq)
        show Win p e below _ s₁ (mkF mt 32 #[.val (.int sel), .val (.int k_), .val (.int o), .val (.int c), .val (.int f), .val (.int g), .val (.int (((sel.toUInt32 >>> (((2 : Int32) * k_) &&& 31).toUInt32).toInt32) &&& (3 : Int32)))] [(.int f)])
        exact Win.ret X0 hx hlk e0 hrt rfl (Or.inl ⟨rfl, Or.inl rfl, _, rfl⟩) (hb hby d_method_3_32) (by decide) (by decide) ⟨by rw [own_pick, if_neg hc11, if_neg hc19, if_pos hc27], N0, rfl⟩
      · refine Win.st ?_ (fun tq kq => XS.icmpYes X0.here hx rfl (pc0 := 27) (pc' := 33) rfl (hb hby d_method_3_27) rfl (feq hc27).2 (by decide) (by decide) kq)
        show Win p e below _ s₁ (mkF mt 33 #[.val (.int sel), .val (.int k_), .val (.int o), .val (.int c), .val (.int f), .val (.int g), .val (.int (((sel.toUInt32 >>> (((2 : Int32) * k_) &&& 31).toUInt32).toInt32) &&& (3 : Int32)))] [])
        refine Win.st ?_ (fun tq kq => XS.iload X0.here hx rfl (hb hby d_method_3_33) rfl kq)
        show Win p e below _ s₁ (mkF mt 35 #[.val (.int sel), .val (.int k_), .val (.int o), .val (.int c), .val (.int f), .val (.int g), .val (.int (((sel.toUInt32 >>> (((2 : Int32) * k_) &&& 31).toUInt32).toInt32) &&& (3 : Int32)))] [(.int g)])
        exact Win.ret X0 hx hlk e0 hrt rfl (Or.inl ⟨rfl, Or.inl rfl, _, rfl⟩) (hb hby d_method_3_35) (by decide) (by decide) ⟨by rw [own_pick, if_neg hc11, if_neg hc19, if_neg hc27], N0, rfl⟩
theorem d_jdk_29_method_65_0 : decode jdk_29_method_65_code 0 = .ok (.iload_n 0, 1) := by decide +kernel
theorem d_jdk_29_method_65_1 : decode jdk_29_method_65_code 1 = .ok (.iload_n 1, 1) := by decide +kernel
theorem d_jdk_29_method_65_2 : decode jdk_29_method_65_code 2 = .ok (.if_icmp .lt 7, 3) := by decide +kernel
theorem d_jdk_29_method_65_9 : decode jdk_29_method_65_code 9 = .ok (.iload_n 1, 1) := by decide +kernel
theorem d_jdk_29_method_65_10 : decode jdk_29_method_65_code 10 = .ok (.ireturn, 1) := by decide +kernel
theorem d_jdk_29_method_65_5 : decode jdk_29_method_65_code 5 = .ok (.iload_n 0, 1) := by decide +kernel
theorem d_jdk_29_method_65_6 : decode jdk_29_method_65_code 6 = .ok (.goto 4, 3) := by decide +kernel
theorem ef_max (mt : MethodId) (x : Int32) (y : Int32) : entryFrame mt #[(.int x), (.int y)] 2 = mkF mt 0 #[.val (.int x), .val (.int y)] [] := by first | (simp [entryFrame, mkF, argsToLocals, Value.category]; done) | rfl
def Q_max (Z : State) (x : Int32) (y : Int32) (h0 : Heap) (n0 : Nat) (v : Option Value) (h : Heap) (L : List Loc) : Prop := v = some (.int (own_max x y)) ∧ Fr n0 L ∧ h = h0
set_option maxRecDepth 65536 in
set_option maxHeartbeats 40000000 in
theorem rm_max (l : Launch) (Z : State) (a0 : Array Value) (hw : ∀ d ∈ tables_1, d.before a0 Z = true) (ws : List Jvm.Cond) (x : Int32) (y : Int32) (h0 : Heap) (n0 : Nat) (Z0 : n0 ≤ h0.size) :
    MetFree l (⟨"java/lang/Math", "max", "(II)I"⟩ : MethodName) (head1 (Jvm.Cond.code (⟨"java/lang/Math", "max", "(II)I"⟩ : MethodName) jdk_29_method_65_code 2 (some .int) :: ws) ({ frames := 0, cells := 0, slots := 0, locals := 0 } : Room)) (fun aa UU => aa = #[(.int x), (.int y)] ∧ Z.Warmed39 UU.vm ∧ UU.heap = h0) (fun _ _ _ _ _ => True) (fun _ UU oo UU' => ∃ vv LL, oo = .returned vv ∧ Q_max Z x y h0 n0 vv UU'.heap LL ∧ FrameEnd UU oo UU' LL ({ frames := 0, cells := 0, slots := 0, locals := 0 } : Room).cells ({ frames := 0, cells := 0, slots := 0, locals := 0 } : Room).slots) := by
  refine MetFree.of_bodySF (Jvm.Free.JP.mathPlain rfl (by decide +kernel)) hisR ?_
  intro p e s mt args below meth cd s₁ Bd hml0 hP hK
  obtain ⟨hA, hZ, hh⟩ := hP
  have hx := Bd.exec
  have hby := Bd.bytes
  have hml : cd.maxLocals = 2 := hml0
  have hown : s.vm.findClass "java/lang/Math" = some mt.cls := findClass_of_methodNamed Bd.named
  have hnm := (name_of_methodNamed Bd.named Bd.method).1
  have hlk : meth.locks = false := BodyLoose.notSynchronized Bd
  have hrt := Bd.returns
  have X0 : Stand p l e ({ frames := 0, cells := 0, slots := 0, locals := 0 } : Room) s mt args below meth cd s₁ [] 0 0 := Stand.of_body Bd
  have e0 : s₁.heap = h0 := by rw [← hh, Bd.state]; rfl
  have N0 := Fr.nil n0
  show Win p e below (Ends s (Q_max Z x y h0 n0) ({ frames := 0, cells := 0, slots := 0, locals := 0 } : Room).cells ({ frames := 0, cells := 0, slots := 0, locals := 0 } : Room).slots) s₁ (entryFrame mt args 2)
  rw [hA, ef_max]
  refine Win.st ?_ (fun tq kq => XS.iloadN X0.here hx rfl (hb hby d_jdk_29_method_65_0) rfl kq)
  show Win p e below _ s₁ (mkF mt 1 #[.val (.int x), .val (.int y)] [(.int x)])
  refine Win.st ?_ (fun tq kq => XS.iloadN X0.here hx rfl (hb hby d_jdk_29_method_65_1) rfl kq)
  show Win p e below _ s₁ (mkF mt 2 #[.val (.int x), .val (.int y)] [(.int y), (.int x)])
  by_cases hc : x < y
  · refine Win.st ?_ (fun tq kq => XS.icmpYes X0.here hx rfl (pc0 := 2) (pc' := 9) rfl (hb hby d_jdk_29_method_65_2) rfl (tlt hc).1 (by decide) (by decide) kq)
    show Win p e below _ s₁ (mkF mt 9 #[.val (.int x), .val (.int y)] [])
    refine Win.st ?_ (fun tq kq => XS.iloadN X0.here hx rfl (hb hby d_jdk_29_method_65_9) rfl kq)
    show Win p e below _ s₁ (mkF mt 10 #[.val (.int x), .val (.int y)] [(.int y)])
    exact Win.ret X0 hx hlk e0 hrt rfl (Or.inl ⟨rfl, Or.inl rfl, _, rfl⟩) (hb hby d_jdk_29_method_65_10) (by decide) (by decide) ⟨by simp only [own_max, hc, if_true, if_false], N0, rfl⟩
  · refine Win.st ?_ (fun tq kq => XS.icmpNo X0.here hx rfl (hb hby d_jdk_29_method_65_2) rfl (flt hc).1 kq)
    show Win p e below _ s₁ (mkF mt 5 #[.val (.int x), .val (.int y)] [])
    refine Win.st ?_ (fun tq kq => XS.iloadN X0.here hx rfl (hb hby d_jdk_29_method_65_5) rfl kq)
    show Win p e below _ s₁ (mkF mt 6 #[.val (.int x), .val (.int y)] [(.int x)])
    refine Win.st ?_ (fun tq kq => XS.goto X0.here hx rfl (pc0 := 6) (pc' := 10) rfl (hb hby d_jdk_29_method_65_6) (by decide) (by decide) kq)
    show Win p e below _ s₁ (mkF mt 10 #[.val (.int x), .val (.int y)] [(.int x)])
    exact Win.ret X0 hx hlk e0 hrt rfl (Or.inl ⟨rfl, Or.inl rfl, _, rfl⟩) (hb hby d_jdk_29_method_65_10) (by decide) (by decide) ⟨by simp only [own_max, hc, if_true, if_false], N0, rfl⟩
theorem d_jdk_43_method_3_0 : decode jdk_43_method_3_code 0 = .ok (.iload_n 0, 1) := by decide +kernel
theorem d_jdk_43_method_3_1 : decode jdk_43_method_3_code 1 = .ok (.sipush 255, 3) := by decide +kernel
theorem d_jdk_43_method_3_4 : decode jdk_43_method_3_code 4 = .ok (.if_icmp .gt 7, 3) := by decide +kernel
theorem d_jdk_43_method_3_7 : decode jdk_43_method_3_code 7 = .ok (.iconst 1, 1) := by decide +kernel
theorem d_jdk_43_method_3_8 : decode jdk_43_method_3_code 8 = .ok (.goto 4, 3) := by decide +kernel
theorem d_jdk_43_method_3_12 : decode jdk_43_method_3_code 12 = .ok (.ireturn, 1) := by decide +kernel
theorem pn_1 : plainName "java/lang/StringLatin1" = true := by first | (simp [plainName, overriddenIn]; done) | decide +kernel
theorem ef_canenc (mt : MethodId) (x : Int32) : entryFrame mt #[(.int x)] 1 = mkF mt 0 #[.val (.int x)] [] := by first | (simp [entryFrame, mkF, argsToLocals, Value.category]; done) | rfl
def Q_canenc (Z : State) (x : Int32) (h0 : Heap) (n0 : Nat) (v : Option Value) (h : Heap) (L : List Loc) : Prop := v = some (.int (1 : Int32)) ∧ Fr n0 L ∧ h = h0
set_option maxRecDepth 65536 in
set_option maxHeartbeats 40000000 in
theorem rm_canenc (l : Launch) (Z : State) (a0 : Array Value) (hw : ∀ d ∈ tables_1, d.before a0 Z = true) (ws : List Jvm.Cond) (x : Int32) (h0 : Heap) (n0 : Nat) (Z0 : n0 ≤ h0.size) (hx1 : ¬ (255 : Int32) < x) :
    MetFree l (⟨"java/lang/StringLatin1", "canEncode", "(C)Z"⟩ : MethodName) (head1 (Jvm.Cond.code (⟨"java/lang/StringLatin1", "canEncode", "(C)Z"⟩ : MethodName) jdk_43_method_3_code 1 (some .boolean) :: ws) ({ frames := 0, cells := 0, slots := 0, locals := 0 } : Room)) (fun aa UU => aa = #[(.int x)] ∧ Z.Warmed39 UU.vm ∧ UU.heap = h0) (fun _ _ _ _ _ => True) (fun _ UU oo UU' => ∃ vv LL, oo = .returned vv ∧ Q_canenc Z x h0 n0 vv UU'.heap LL ∧ FrameEnd UU oo UU' LL ({ frames := 0, cells := 0, slots := 0, locals := 0 } : Room).cells ({ frames := 0, cells := 0, slots := 0, locals := 0 } : Room).slots) := by
  refine MetFree.of_bodySF (plainFor_of_name pn_1) hisR ?_
  intro p e s mt args below meth cd s₁ Bd hml0 hP hK
  obtain ⟨hA, hZ, hh⟩ := hP
  have hx := Bd.exec
  have hby := Bd.bytes
  have hml : cd.maxLocals = 1 := hml0
  have hown : s.vm.findClass "java/lang/StringLatin1" = some mt.cls := findClass_of_methodNamed Bd.named
  have hnm := (name_of_methodNamed Bd.named Bd.method).1
  have hlk : meth.locks = false := BodyLoose.notSynchronized Bd
  have hrt := Bd.returns
  have X0 : Stand p l e ({ frames := 0, cells := 0, slots := 0, locals := 0 } : Room) s mt args below meth cd s₁ [] 0 0 := Stand.of_body Bd
  have e0 : s₁.heap = h0 := by rw [← hh, Bd.state]; rfl
  have N0 := Fr.nil n0
  show Win p e below (Ends s (Q_canenc Z x h0 n0) ({ frames := 0, cells := 0, slots := 0, locals := 0 } : Room).cells ({ frames := 0, cells := 0, slots := 0, locals := 0 } : Room).slots) s₁ (entryFrame mt args 1)
  rw [hA, ef_canenc]
  refine Win.st ?_ (fun tq kq => XS.iloadN X0.here hx rfl (hb hby d_jdk_43_method_3_0) rfl kq)
  show Win p e below _ s₁ (mkF mt 1 #[.val (.int x)] [(.int x)])
  refine Win.st ?_ (fun tq kq => XS.sipush X0.here hx rfl (hb hby d_jdk_43_method_3_1) kq)
  show Win p e below _ s₁ (mkF mt 4 #[.val (.int x)] [(.int (255 : Int32)), (.int x)])
  refine Win.st ?_ (fun tq kq => XS.icmpNo X0.here hx rfl (hb hby d_jdk_43_method_3_4) rfl (flt hx1).2.2.1 kq)
  show Win p e below _ s₁ (mkF mt 7 #[.val (.int x)] [])
  refine Win.st ?_ (fun tq kq => XS.iconst X0.here hx rfl (hb hby d_jdk_43_method_3_7) kq)
  show Win p e below _ s₁ (mkF mt 8 #[.val (.int x)] [(.int (1 : Int32))])
  refine Win.st ?_ (fun tq kq => XS.goto X0.here hx rfl (pc0 := 8) (pc' := 12) rfl (hb hby d_jdk_43_method_3_8) (by decide) (by decide) kq)
  show Win p e below _ s₁ (mkF mt 12 #[.val (.int x)] [(.int (1 : Int32))])
  exact Win.retN X0 hx hlk e0 (t := .boolean) (z' := (1 : Int32)) hrt (by simp) (hb hby d_jdk_43_method_3_12) (by decide) (by decide) rfl ⟨rfl, N0, rfl⟩
theorem d_jdk_43_method_46_0 : decode jdk_43_method_46_code 0 = .ok (.iconst 1, 1) := by decide +kernel
theorem d_jdk_43_method_46_1 : decode jdk_43_method_46_code 1 = .ok (.newarray .byte, 2) := by decide +kernel
theorem d_jdk_43_method_46_3 : decode jdk_43_method_46_code 3 = .ok (.dup, 1) := by decide +kernel
theorem d_jdk_43_method_46_4 : decode jdk_43_method_46_code 4 = .ok (.iconst 0, 1) := by decide +kernel
theorem d_jdk_43_method_46_5 : decode jdk_43_method_46_code 5 = .ok (.iload_n 0, 1) := by decide +kernel
theorem d_jdk_43_method_46_6 : decode jdk_43_method_46_code 6 = .ok (.i2b, 1) := by decide +kernel
theorem d_jdk_43_method_46_7 : decode jdk_43_method_46_code 7 = .ok (.bastore, 1) := by decide +kernel
theorem d_jdk_43_method_46_8 : decode jdk_43_method_46_code 8 = .ok (.areturn, 1) := by decide +kernel
theorem ef_tobytes (mt : MethodId) (x : Int32) : entryFrame mt #[(.int x)] 1 = mkF mt 0 #[.val (.int x)] [] := by first | (simp [entryFrame, mkF, argsToLocals, Value.category]; done) | rfl
def Q_tobytes (Z : State) (x : Int32) (h0 : Heap) (n0 : Nat) (v : Option Value) (h : Heap) (L : List Loc) : Prop := ∃ r : Addr, v = some (.ref r) ∧ Fr n0 L ∧ Keep h0 h [] ∧ n0 ≤ r ∧ h0.size ≤ r ∧ ∃ k : ClassId, Arv Z h r k .byte (1 : Int32) [(.int (x.toInt8.toInt32))] (.int (0 : Int32))
set_option maxRecDepth 65536 in
set_option maxHeartbeats 40000000 in
theorem rm_tobytes (l : Launch) (Z : State) (a0 : Array Value) (hw : ∀ d ∈ tables_1, d.before a0 Z = true) (ws : List Jvm.Cond) (x : Int32) (h0 : Heap) (n0 : Nat) (Z0 : n0 ≤ h0.size) :
    MetFree l (⟨"java/lang/StringLatin1", "toBytes", "(C)[B"⟩ : MethodName) (head1 (Jvm.Cond.code (⟨"java/lang/StringLatin1", "toBytes", "(C)[B"⟩ : MethodName) jdk_43_method_46_code 1 (some (.array .byte)) :: ws) ({ frames := 0, cells := 1, slots := 1, locals := 0 } : Room)) (fun aa UU => aa = #[(.int x)] ∧ Z.Warmed39 UU.vm ∧ UU.heap = h0) (fun _ _ _ _ _ => True) (fun _ UU oo UU' => ∃ vv LL, oo = .returned vv ∧ Q_tobytes Z x h0 n0 vv UU'.heap LL ∧ FrameEnd UU oo UU' LL ({ frames := 0, cells := 1, slots := 1, locals := 0 } : Room).cells ({ frames := 0, cells := 1, slots := 1, locals := 0 } : Room).slots) := by
  refine MetFree.of_bodySF (plainFor_of_name pn_1) hisR ?_
  intro p e s mt args below meth cd s₁ Bd hml0 hP hK
  obtain ⟨hA, hZ, hh⟩ := hP
  have hx := Bd.exec
  have hby := Bd.bytes
  have hml : cd.maxLocals = 1 := hml0
  have hown : s.vm.findClass "java/lang/StringLatin1" = some mt.cls := findClass_of_methodNamed Bd.named
  have hnm := (name_of_methodNamed Bd.named Bd.method).1
  have hlk : meth.locks = false := BodyLoose.notSynchronized Bd
  have hrt := Bd.returns
  have X0 : Stand p l e ({ frames := 0, cells := 1, slots := 1, locals := 0 } : Room) s mt args below meth cd s₁ [] 0 0 := Stand.of_body Bd
  have e0 : s₁.heap = h0 := by rw [← hh, Bd.state]; rfl
  have N0 := Fr.nil n0
  show Win p e below (Ends s (Q_tobytes Z x h0 n0) ({ frames := 0, cells := 1, slots := 1, locals := 0 } : Room).cells ({ frames := 0, cells := 1, slots := 1, locals := 0 } : Room).slots) s₁ (entryFrame mt args 1)
  rw [hA, ef_tobytes]
  refine Win.st ?_ (fun tq kq => XS.iconst X0.here hx rfl (hb hby d_jdk_43_method_46_0) kq)
  show Win p e below _ s₁ (mkF mt 1 #[.val (.int x)] [(.int (1 : Int32))])
  obtain ⟨T11, h11, k11, X11, e11, E11, A11, st11⟩ := newP X0 hx hZ (hw _ (List.mem_of_getElem? (i := 5) rfl)) e0 (g := (mkF mt 1 #[.val (.int x)] [(.int (1 : Int32))])) rfl (hb hby d_jdk_43_method_46_1) rfl (by decide) (cap := 1) (by decide) (by decide) (by decide) (by decide)
  obtain ⟨b11, gq11⟩ : ∃ z, z = h0.size := ⟨_, rfl⟩
  rw [← gq11] at A11 st11
  have g12 : n0 ≤ b11 := own_newle Z0 gq11
  have z13 : h0.size ≤ b11 := own_newle (Keep.refl h0 []).1 gq11
  have ke11 := own_kext E11
  replace X11 : Stand p l e _ s mt args below meth cd T11 _ 1 1 := X11
  have Z15 : n0 ≤ h11.size := Nat.le_trans Z0 ke11.1
  have K16 : Keep h0 h11 [] := Keep.trans (Keep.refl h0 []) ke11 all0
  have V11 : Arv Z h11 b11 k11 .byte (1 : Int32) [(.int (0 : Int32))] (.int (0 : Int32)) := (Arv.new A11 (by decide)).pad (pad_rep [] (.int (0 : Int32)) 1)
  refine Win.st ?_ st11
  show Win p e below _ T11 (mkF mt 3 #[.val (.int x)] [(.ref b11)])
  refine Win.st ?_ (fun tq kq => XS.dup X11.here hx rfl (hb hby d_jdk_43_method_46_3) rfl rfl kq)
  show Win p e below _ T11 (mkF mt 4 #[.val (.int x)] [(.ref b11), (.ref b11)])
  refine Win.st ?_ (fun tq kq => XS.iconst X11.here hx rfl (hb hby d_jdk_43_method_46_4) kq)
  show Win p e below _ T11 (mkF mt 5 #[.val (.int x)] [(.int (0 : Int32)), (.ref b11), (.ref b11)])
  refine Win.st ?_ (fun tq kq => XS.iloadN X11.here hx rfl (hb hby d_jdk_43_method_46_5) rfl kq)
  show Win p e below _ T11 (mkF mt 6 #[.val (.int x)] [(.int x), (.int (0 : Int32)), (.ref b11), (.ref b11)])
  refine Win.st ?_ (fun tq kq => XS.i2b X11.here hx rfl (hb hby d_jdk_43_method_46_6) rfl kq)
  show Win p e below _ T11 (mkF mt 7 #[.val (.int x)] [(.int (x.toInt8.toInt32)), (.int (0 : Int32)), (.ref b11), (.ref b11)])
  obtain ⟨T17, h17, L17, X17, N17, e17, kp17, V17, st17⟩ := own_bast (g := (mkF mt 7 #[.val (.int x)] [(.int (x.toInt8.toInt32)), (.int (0 : Int32)), (.ref b11), (.ref b11)])) X11 hx hZ e11 N0 g12 V11 (j := (0 : Int32)) (by decide) (by decide) (i := 0) rfl (by decide) rfl rfl (hb hby d_jdk_43_method_46_7)
  rw [own_b8] at V17
  replace V17 : Arv Z h17 b11 k11 .byte (1 : Int32) ([(.int (x.toInt8.toInt32))]) (.int (0 : Int32)) := V17
  have Z19 : n0 ≤ h17.size := Nat.le_trans Z15 kp17.1
  have K20 : Keep h0 h17 [] := Keep.trans K16 kp17 (allS (Or.inr z13) all0)
  refine Win.st ?_ st17
  show Win p e below _ T17 (mkF mt 8 #[.val (.int x)] [(.ref b11)])
  exact Win.ret X17 hx hlk e17 hrt rfl (Or.inr (Or.inr (Or.inr (Or.inr ⟨rfl, rfl, rfl⟩)))) (hb hby d_jdk_43_method_46_8) (by decide) (by decide) ⟨_, rfl, N17, K20, g12, z13, _, V17⟩
theorem d_jdk_42_method_151_0 : decode jdk_42_method_151_code 0 = .ok (.aload_n 0, 1) := by decide +kernel
theorem d_jdk_42_method_151_1 : decode jdk_42_method_151_code 1 = .ok (.invokespecial 1, 3) := by decide +kernel
theorem d_jdk_42_method_151_4 : decode jdk_42_method_151_code 4 = .ok (.aload_n 0, 1) := by decide +kernel
theorem d_jdk_42_method_151_5 : decode jdk_42_method_151_code 5 = .ok (.aload_n 1, 1) := by decide +kernel
theorem d_jdk_42_method_151_6 : decode jdk_42_method_151_code 6 = .ok (.putfield 9, 3) := by decide +kernel
theorem d_jdk_42_method_151_9 : decode jdk_42_method_151_code 9 = .ok (.aload_n 0, 1) := by decide +kernel
theorem d_jdk_42_method_151_10 : decode jdk_42_method_151_code 10 = .ok (.iload_n 2, 1) := by decide +kernel
theorem d_jdk_42_method_151_11 : decode jdk_42_method_151_code 11 = .ok (.putfield 15, 3) := by decide +kernel
theorem d_jdk_42_method_151_14 : decode jdk_42_method_151_code 14 = .ok (.return_, 1) := by decide +kernel
theorem pn_2 : plainName "java/lang/String" = true := by first | (simp [plainName, overriddenIn]; done) | decide +kernel
theorem ef_sinit (mt : MethodId) (a : Addr) (b : Addr) : entryFrame mt #[(.ref a), (.ref b), (.int (0 : Int32))] 3 = mkF mt 0 #[.val (.ref a), .val (.ref b), .val (.int (0 : Int32))] [] := by first | (simp [entryFrame, mkF, argsToLocals, Value.category]; done) | rfl
def Q_sinit (Z : State) (a : Addr) (b : Addr) (h0 : Heap) (n0 : Nat) (v : Option Value) (h : Heap) (L : List Loc) : Prop := v = none ∧ Fr n0 L ∧ Keep h0 h [a] ∧ Fld Z h a "java/lang/String" "value" "[B" (.ref b) ∧ Fld Z h a "java/lang/String" "coder" "B" (.int (0 : Int32))
set_option maxRecDepth 65536 in
set_option maxHeartbeats 40000000 in
theorem rm_sinit (l : Launch) (Z : State) (a0 : Array Value) (hw : ∀ d ∈ tables_1, d.before a0 Z = true) (ws : List Jvm.Cond) (a : Addr) (b : Addr) (h0 : Heap) (n0 : Nat) (Z0 : n0 ≤ h0.size) (E : Exa Z h0 a "java/lang/String") (Fv : Fld Z h0 a "java/lang/String" "value" "[B" .null) (Fc : Fld Z h0 a "java/lang/String" "coder" "B" (.int (0 : Int32))) (ga : n0 ≤ a) :
    MetFree l (⟨"java/lang/String", "<init>", "([BB)V"⟩ : MethodName) (head1 (Jvm.Cond.code (⟨"java/lang/String", "<init>", "([BB)V"⟩ : MethodName) jdk_42_method_151_code 3 none :: ws) ({ frames := 1, cells := 0, slots := 0, locals := 12 } : Room)) (fun aa UU => aa = #[(.ref a), (.ref b), (.int (0 : Int32))] ∧ Z.Warmed39 UU.vm ∧ UU.heap = h0) (fun _ _ _ _ _ => True) (fun _ UU oo UU' => ∃ vv LL, oo = .returned vv ∧ Q_sinit Z a b h0 n0 vv UU'.heap LL ∧ FrameEnd UU oo UU' LL ({ frames := 1, cells := 0, slots := 0, locals := 12 } : Room).cells ({ frames := 1, cells := 0, slots := 0, locals := 12 } : Room).slots) := by
  refine MetFree.of_bodySF (plainFor_of_name pn_2) hisR ?_
  intro p e s mt args below meth cd s₁ Bd hml0 hP hK
  obtain ⟨hA, hZ, hh⟩ := hP
  have hx := Bd.exec
  have hby := Bd.bytes
  have hml : cd.maxLocals = 3 := hml0
  have hown : s.vm.findClass "java/lang/String" = some mt.cls := findClass_of_methodNamed Bd.named
  have hnm := (name_of_methodNamed Bd.named Bd.method).1
  have hlk : meth.locks = false := BodyLoose.notSynchronized Bd
  have hrt := Bd.returns
  have X0 : Stand p l e ({ frames := 1, cells := 0, slots := 0, locals := 12 } : Room) s mt args below meth cd s₁ [] 0 0 := Stand.of_body Bd
  have e0 : s₁.heap = h0 := by rw [← hh, Bd.state]; rfl
  have N0 := Fr.nil n0
  show Win p e below (Ends s (Q_sinit Z a b h0 n0) ({ frames := 1, cells := 0, slots := 0, locals := 12 } : Room).cells ({ frames := 1, cells := 0, slots := 0, locals := 12 } : Room).slots) s₁ (entryFrame mt args 3)
  rw [hA, ef_sinit]
  refine Win.st ?_ (fun tq kq => XS.aloadN X0.here hx rfl (hb hby d_jdk_42_method_151_0) rfl rfl kq)
  show Win p e below _ s₁ (mkF mt 1 #[.val (.ref a), .val (.ref b), .val (.int (0 : Int32))] [(.ref a)])
  obtain ⟨T21, X21, e21, st21⟩ := initO X0 hx hZ hown (hw _ (List.mem_of_getElem? (i := 27) rfl)) (hw _ (List.mem_of_getElem? (i := 28) rfl)) (hw _ (List.mem_of_getElem? (i := 29) rfl)) e0 (g := (mkF mt 1 #[.val (.ref a), .val (.ref b), .val (.int (0 : Int32))] [(.ref a)])) rfl (by rw [hml]; rfl) rfl (hb hby d_jdk_42_method_151_1) (by decide) (W := 0) (by show 2 * 0 + _ ≤ _; exact Nat.le_of_eq rfl) (by decide)
  refine Win.st ?_ st21
  show Win p e below _ T21 (mkF mt 4 #[.val (.ref a), .val (.ref b), .val (.int (0 : Int32))] [])
  refine Win.st ?_ (fun tq kq => XS.aloadN X21.here hx rfl (hb hby d_jdk_42_method_151_4) rfl rfl kq)
  show Win p e below _ T21 (mkF mt 5 #[.val (.ref a), .val (.ref b), .val (.int (0 : Int32))] [(.ref a)])
  refine Win.st ?_ (fun tq kq => XS.aloadN X21.here hx rfl (hb hby d_jdk_42_method_151_5) rfl rfl kq)
  show Win p e below _ T21 (mkF mt 6 #[.val (.ref a), .val (.ref b), .val (.int (0 : Int32))] [(.ref b), (.ref a)])
  obtain ⟨T22, h22, X22, e22, W22, st22⟩ := putF X21 hx hZ hown (host := "") (Or.inl (hw _ (List.mem_of_getElem? (i := 30) rfl))) Via.refl e21 Fv E (Or.inr ⟨(hw _ (List.mem_of_getElem? (i := 31) rfl)), rfl, hnm⟩) (hw _ (List.mem_of_getElem? (i := 19) rfl)) (ty := (.array .byte)) (by decide) rfl rfl (g := (mkF mt 6 #[.val (.ref a), .val (.ref b), .val (.int (0 : Int32))] [(.ref b), (.ref a)])) rfl rfl (hb hby d_jdk_42_method_151_6)
  obtain ⟨L22, X22, N22⟩ := own_hide X22 N0 ga
  have kp22 := Keep.of_wr W22
  have fw22 := Fv.same W22
  have f22_13 := Fc.other W22 (Or.inr (slot_ne (Or.inr (hw _ (List.mem_of_getElem? (i := 33) rfl))) (Or.inr (hw _ (List.mem_of_getElem? (i := 31) rfl))) (by decide) (t := .byte) (t' := (.array .byte)) (by decide) (by decide)))
  have f23_14 := E.keep kp22
  have Z24 : n0 ≤ h22.size := Nat.le_trans Z0 kp22.1
  have K25 : Keep h0 h22 [a] := Keep.trans (Keep.refl h0 [a]) kp22 (allS (Or.inl (List.mem_of_getElem? (i := 0) rfl)) all0)
  refine Win.st ?_ st22
  show Win p e below _ T22 (mkF mt 9 #[.val (.ref a), .val (.ref b), .val (.int (0 : Int32))] [])
  refine Win.st ?_ (fun tq kq => XS.aloadN X22.here hx rfl (hb hby d_jdk_42_method_151_9) rfl rfl kq)
  show Win p e below _ T22 (mkF mt 10 #[.val (.ref a), .val (.ref b), .val (.int (0 : Int32))] [(.ref a)])
  refine Win.st ?_ (fun tq kq => XS.iloadN X22.here hx rfl (hb hby d_jdk_42_method_151_10) rfl kq)
  show Win p e below _ T22 (mkF mt 11 #[.val (.ref a), .val (.ref b), .val (.int (0 : Int32))] [(.int (0 : Int32)), (.ref a)])
  obtain ⟨T26, h26, X26, e26, W26, st26⟩ := putFN X22 hx hZ hown (hw _ (List.mem_of_getElem? (i := 32) rfl)) Via.refl e22 f22_13 f23_14 (Or.inr ⟨(hw _ (List.mem_of_getElem? (i := 33) rfl)), rfl, hnm⟩) (hw _ (List.mem_of_getElem? (i := 19) rfl)) (ty := .byte) (v' := (.int (0 : Int32))) (by decide) rfl (by decide) (g := (mkF mt 11 #[.val (.ref a), .val (.ref b), .val (.int (0 : Int32))] [(.int (0 : Int32)), (.ref a)])) rfl rfl (hb hby d_jdk_42_method_151_11)
  obtain ⟨L26, X26, N26⟩ := own_hide X26 N22 ga
  have kp26 := Keep.of_wr W26
  have f26_26 := fw22.other W26 (Or.inr (slot_ne (Or.inr (hw _ (List.mem_of_getElem? (i := 31) rfl))) (Or.inr (hw _ (List.mem_of_getElem? (i := 33) rfl))) (by decide) (t := (.array .byte)) (t' := .byte) (by decide) (by decide)))
  have fw26 := f22_13.same W26
  have f27_28 := f23_14.keep kp26
  have Z28 : n0 ≤ h26.size := Nat.le_trans Z24 kp26.1
  have K29 : Keep h0 h26 [a] := Keep.trans K25 kp26 (allS (Or.inl (List.mem_of_getElem? (i := 0) rfl)) all0)
  refine Win.st ?_ st26
  show Win p e below _ T26 (mkF mt 14 #[.val (.ref a), .val (.ref b), .val (.int (0 : Int32))] [])
  exact Win.retV X26 hx hlk e26 hrt (hb hby d_jdk_42_method_151_14) (by decide) (by decide) ⟨rfl, N26, K29, f26_26, fw26⟩
theorem d_jdk_42_method_139_0 : decode jdk_42_method_139_code 0 = .ok (.getstatic 38, 3) := by decide +kernel
theorem d_jdk_42_method_139_3 : decode jdk_42_method_139_code 3 = .ok (.ifCond .eq 23, 3) := by decide +kernel
theorem d_jdk_42_method_139_6 : decode jdk_42_method_139_code 6 = .ok (.iload_n 0, 1) := by decide +kernel
theorem d_jdk_42_method_139_7 : decode jdk_42_method_139_code 7 = .ok (.invokestatic 1015, 3) := by decide +kernel
theorem pd_0 : parseMethodDescriptor "(C)Z" = some ⟨[.char], some .boolean⟩ := by decide +kernel
theorem d_jdk_42_method_139_10 : decode jdk_42_method_139_code 10 = .ok (.ifCond .eq 16, 3) := by decide +kernel
theorem d_jdk_42_method_139_13 : decode jdk_42_method_139_code 13 = .ok (.new 10, 3) := by decide +kernel
theorem d_jdk_42_method_139_16 : decode jdk_42_method_139_code 16 = .ok (.dup, 1) := by decide +kernel
theorem d_jdk_42_method_139_17 : decode jdk_42_method_139_code 17 = .ok (.iload_n 0, 1) := by decide +kernel
theorem d_jdk_42_method_139_18 : decode jdk_42_method_139_code 18 = .ok (.invokestatic 1018, 3) := by decide +kernel
theorem pd_1 : parseMethodDescriptor "(C)[B" = some ⟨[.char], some (.array .byte)⟩ := by decide +kernel
theorem d_jdk_42_method_139_21 : decode jdk_42_method_139_code 21 = .ok (.iconst 0, 1) := by decide +kernel
theorem d_jdk_42_method_139_22 : decode jdk_42_method_139_code 22 = .ok (.invokespecial 209, 3) := by decide +kernel
theorem pd_2 : parseMethodDescriptor "([BB)V" = some ⟨[(.array .byte), .byte], none⟩ := by decide +kernel
theorem d_jdk_42_method_139_25 : decode jdk_42_method_139_code 25 = .ok (.areturn, 1) := by decide +kernel
theorem ef_valueof (mt : MethodId) (x : Int32) : entryFrame mt #[(.int x)] 1 = mkF mt 0 #[.val (.int x)] [] := by first | (simp [entryFrame, mkF, argsToLocals, Value.category]; done) | rfl
def Q_valueof (Z : State) (x : Int32) (cs : Int32) (h0 : Heap) (n0 : Nat) (v : Option Value) (h : Heap) (L : List Loc) : Prop := ∃ r : Addr, v = some (.ref r) ∧ Fr n0 L ∧ Keep h0 h [] ∧ n0 ≤ r ∧ h0.size ≤ r ∧ ∃ (b : Addr) (k : ClassId), n0 ≤ b ∧ h0.size ≤ b ∧ Exa Z h r "java/lang/String" ∧ Fld Z h r "java/lang/String" "value" "[B" (.ref b) ∧ Fld Z h r "java/lang/String" "coder" "B" (.int (0 : Int32)) ∧ Arv Z h b k .byte (1 : Int32) [(.int (x.toInt8.toInt32))] (.int (0 : Int32))
set_option maxRecDepth 65536 in
set_option maxHeartbeats 40000000 in
theorem rm_valueof (l : Launch) (Z : State) (a0 : Array Value) (hw : ∀ d ∈ tables_1, d.before a0 Z = true) (ws : List Jvm.Cond) (x : Int32) (cs : Int32) (h0 : Heap) (n0 : Nat) (Z0 : n0 ≤ h0.size) (S0 : Sta Z Z.heap "java/lang/String" "COMPACT_STRINGS" "Z" (.int cs)) (hcs : ¬ cs = (0 : Int32)) (O : Old Z n0 h0) (hx1 : ¬ (255 : Int32) < x) :
    MetFree l (⟨"java/lang/String", "valueOf", "(C)Ljava/lang/String;"⟩ : MethodName) (head1 (Jvm.Cond.code (⟨"java/lang/String", "valueOf", "(C)Ljava/lang/String;"⟩ : MethodName) jdk_42_method_139_code 1 (some (.object "java/lang/String")) :: ws) ({ frames := 2, cells := 2, slots := 5, locals := 27 } : Room)) (fun aa UU => aa = #[(.int x)] ∧ Z.Warmed39 UU.vm ∧ UU.heap = h0) (fun _ _ _ _ _ => True) (fun _ UU oo UU' => ∃ vv LL, oo = .returned vv ∧ Q_valueof Z x cs h0 n0 vv UU'.heap LL ∧ FrameEnd UU oo UU' LL ({ frames := 2, cells := 2, slots := 5, locals := 27 } : Room).cells ({ frames := 2, cells := 2, slots := 5, locals := 27 } : Room).slots) := by
  refine MetFree.of_bodySF (plainFor_of_name pn_2) hisR ?_
  intro p e s mt args below meth cd s₁ Bd hml0 hP hK
  obtain ⟨hA, hZ, hh⟩ := hP
  have hx := Bd.exec
  have hby := Bd.bytes
  have hml : cd.maxLocals = 1 := hml0
  have hown : s.vm.findClass "java/lang/String" = some mt.cls := findClass_of_methodNamed Bd.named
  have hnm := (name_of_methodNamed Bd.named Bd.method).1
  have hlk : meth.locks = false := BodyLoose.notSynchronized Bd
  have hrt := Bd.returns
  have X0 : Stand p l e ({ frames := 2, cells := 2, slots := 5, locals := 27 } : Room) s mt args below meth cd s₁ [] 0 0 := Stand.of_body Bd
  have e0 : s₁.heap = h0 := by rw [← hh, Bd.state]; rfl
  have N0 := Fr.nil n0
  show Win p e below (Ends s (Q_valueof Z x cs h0 n0) ({ frames := 2, cells := 2, slots := 5, locals := 27 } : Room).cells ({ frames := 2, cells := 2, slots := 5, locals := 27 } : Room).slots) s₁ (entryFrame mt args 1)
  rw [hA, ef_valueof]
  obtain ⟨T30, X30, e30, st30⟩ := getS2 X0 hx hZ hown (host := "") (Or.inl (hw _ (List.mem_of_getElem? (i := 13) rfl))) Via.refl e0 (S0.ext O.2) (g := (mkF mt 0 #[.val (.int x)] [])) rfl (hb hby d_jdk_42_method_139_0)
  refine Win.st ?_ st30
  show Win p e below _ T30 (mkF mt 3 #[.val (.int x)] [(.int cs)])
  refine Win.st ?_ (fun tq kq => XS.ifNo X30.here hx rfl (hb hby d_jdk_42_method_139_3) rfl ((if0 _ _).trans (feq hcs).1) kq)
  show Win p e below _ T30 (mkF mt 6 #[.val (.int x)] [])
  refine Win.st ?_ (fun tq kq => XS.iloadN X30.here hx rfl (hb hby d_jdk_42_method_139_6) rfl kq)
  show Win p e below _ T30 (mkF mt 7 #[.val (.int x)] [(.int x)])
  obtain ⟨v31, _, ⟨T31, L31, k31, n31⟩, -, X31, ⟨Lc31, hQ31, l31, y31, z31⟩, st31⟩ := Jvm.LawKit.callS X30 hx (y := (⟨"java/lang/StringLatin1", "canEncode", "(C)Z"⟩ : MethodName)) hown (mvT hZ (hw _ (List.mem_of_getElem? (i := 14) rfl))) (mvT hZ (hw _ (List.mem_of_getElem? (i := 15) rfl))) (mvT hZ (hw _ (List.mem_of_getElem? (i := 16) rfl))) (mvT hZ (hw _ (List.mem_of_getElem? (i := 17) rfl))) (by decide) (backOf (W := 0) (rm_canenc l Z a0 hw [] x h0 n0 Z0 hx1) hZ (hw _ (List.mem_of_getElem? (i := 17) rfl)) (hw _ (List.mem_of_getElem? (i := 16) rfl)) (by decide) (by decide)) (g := (mkF mt 7 #[.val (.int x)] [(.int x)])) rfl (by rw [hml]; rfl) (argsL := [(.int x)]) (rest := []) (lenOf pd_0 rfl) rfl (by show 2 * 0 + _ ≤ _; exact Nat.le_of_eq rfl) (hb hby d_jdk_42_method_139_7) (fun _ _ => ⟨rfl, e30, (by decide : 0 + 0 ≤ _), (by decide : 0 + 0 ≤ _)⟩)
  dsimp only [Pt.U, Pt.locs, Pt.cells, Pt.slots] at X31 l31 y31 z31 st31 hQ31
  subst y31 z31
  replace X31 : Stand p l e _ s mt args below meth cd T31 L31 0 0 := X31
  obtain ⟨h31, e31⟩ : ∃ z, T31.heap = z := ⟨_, rfl⟩
  rw [e31] at hQ31
  obtain ⟨rfl, Nq31, eh31⟩ := hQ31
  have N31 : Fr n0 L31 := by rw [l31]; exact Fr.app N0 Nq31
  rw [eh31] at e31
  refine Win.st ?_ st31
  show Win p e below _ T31 (mkF mt 10 #[.val (.int x)] [(.int (1 : Int32))])
  refine Win.st ?_ (fun tq kq => XS.ifNo X31.here hx rfl (hb hby d_jdk_42_method_139_10) rfl ((if0 _ _).trans (feq (by decide : ¬ ((1 : Int32) = (0 : Int32)))).1) kq)
  show Win p e below _ T31 (mkF mt 13 #[.val (.int x)] [])
  obtain ⟨T32, h32, X32, e32, E32, A32, D32, -, st32⟩ := newO X31 hx hZ hown (hw _ (List.mem_of_getElem? (i := 18) rfl)) (hw _ (List.mem_of_getElem? (i := 19) rfl)) (hw _ (List.mem_of_getElem? (i := 11) rfl)) e31 (g := (mkF mt 13 #[.val (.int x)] [])) rfl (hb hby d_jdk_42_method_139_13) (by decide) (by decide)
  obtain ⟨b32, gq32⟩ : ∃ z, z = h0.size := ⟨_, rfl⟩
  rw [← gq32] at A32 D32 st32
  have g33 : n0 ≤ b32 := own_newle Z0 gq32
  have z34 : h0.size ≤ b32 := own_newle (Keep.refl h0 []).1 gq32
  have ke32 := own_kext E32
  replace X32 : Stand p l e _ s mt args below meth cd T32 _ 1 4 := X32
  have f35_27 := O.keep ke32 all0
  have Z36 : n0 ≤ h32.size := Nat.le_trans Z0 ke32.1
  have K37 : Keep h0 h32 [] := Keep.trans (Keep.refl h0 []) ke32 all0
  have fn32_value : Fld Z h32 b32 "java/lang/String" "value" "[B" .null := D32 (Or.inr (hw _ (List.mem_of_getElem? (i := 31) rfl))) (ty := (.array .byte)) (by decide)
  have fn32_coder : Fld Z h32 b32 "java/lang/String" "coder" "B" (.int (0 : Int32)) := D32 (Or.inr (hw _ (List.mem_of_getElem? (i := 33) rfl))) (ty := .byte) (by decide)
  refine Win.st ?_ st32
  show Win p e below _ T32 (mkF mt 16 #[.val (.int x)] [(.ref b32)])
  refine Win.st ?_ (fun tq kq => XS.dup X32.here hx rfl (hb hby d_jdk_42_method_139_16) rfl rfl kq)
  show Win p e below _ T32 (mkF mt 17 #[.val (.int x)] [(.ref b32), (.ref b32)])
  refine Win.st ?_ (fun tq kq => XS.iloadN X32.here hx rfl (hb hby d_jdk_42_method_139_17) rfl kq)
  show Win p e below _ T32 (mkF mt 18 #[.val (.int x)] [(.int x), (.ref b32), (.ref b32)])
  obtain ⟨v38, _, ⟨T38, L38, k38, n38⟩, -, X38, ⟨Lc38, hQ38, l38, y38, z38⟩, st38⟩ := Jvm.LawKit.callS X32 hx (y := (⟨"java/lang/StringLatin1", "toBytes", "(C)[B"⟩ : MethodName)) hown (mvT hZ (hw _ (List.mem_of_getElem? (i := 20) rfl))) (mvT hZ (hw _ (List.mem_of_getElem? (i := 21) rfl))) (mvT hZ (hw _ (List.mem_of_getElem? (i := 16) rfl))) (mvT hZ (hw _ (List.mem_of_getElem? (i := 22) rfl))) (by decide) (backOf (W := 2) (rm_tobytes l Z a0 hw [] x h32 n0 Z36 ) hZ (hw _ (List.mem_of_getElem? (i := 22) rfl)) (hw _ (List.mem_of_getElem? (i := 16) rfl)) (by decide) (by decide)) (g := (mkF mt 18 #[.val (.int x)] [(.int x), (.ref b32), (.ref b32)])) rfl (by rw [hml]; rfl) (argsL := [(.int x)]) (rest := [(.ref b32), (.ref b32)]) (lenOf pd_1 rfl) rfl (by show 2 * 0 + _ ≤ _; exact Nat.le_of_eq rfl) (hb hby d_jdk_42_method_139_18) (fun _ _ => ⟨rfl, e32, (by decide : 1 + 1 ≤ _), (by decide : 4 + 1 ≤ _)⟩)
  dsimp only [Pt.U, Pt.locs, Pt.cells, Pt.slots] at X38 l38 y38 z38 st38 hQ38
  subst y38 z38
  replace X38 : Stand p l e _ s mt args below meth cd T38 L38 2 5 := X38
  obtain ⟨h38, e38⟩ : ∃ z, T38.heap = z := ⟨_, rfl⟩
  rw [e38] at hQ38
  obtain ⟨bb, rfl, Nq38, K38, gb38, sb38, kb, V38⟩ := hQ38
  have N38 : Fr n0 L38 := by rw [l38]; exact Fr.app N31 Nq38
  have f39_46 := f35_27.keep K38 all0
  have f39_47 := A32.keep K38
  have f39_48 := fn32_value.keep K38 nin0
  have f39_49 := fn32_coder.keep K38 nin0
  have Z40 : n0 ≤ h38.size := Nat.le_trans Z36 K38.1
  have K41 : Keep h0 h38 [] := Keep.trans K37 K38 all0
  have nab : b32 ≠ bb := Nat.ne_of_lt (Nat.lt_of_lt_of_le A32.lt sb38)
  have szb : h0.size ≤ bb := Nat.le_trans K37.1 sb38
  refine Win.st ?_ st38
  show Win p e below _ T38 (mkF mt 21 #[.val (.int x)] [(.ref bb), (.ref b32), (.ref b32)])
  refine Win.st ?_ (fun tq kq => XS.iconst X38.here hx rfl (hb hby d_jdk_42_method_139_21) kq)
  show Win p e below _ T38 (mkF mt 22 #[.val (.int x)] [(.int (0 : Int32)), (.ref bb), (.ref b32), (.ref b32)])
  obtain ⟨v42, _, ⟨T42, L42, k42, n42⟩, -, X42, ⟨Lc42, hQ42, l42, y42, z42⟩, st42⟩ := X38.specialBack hx (y := (⟨"java/lang/String", "<init>", "([BB)V"⟩ : MethodName)) rfl hown (mvT hZ (hw _ (List.mem_of_getElem? (i := 23) rfl))) (mvT hZ (hw _ (List.mem_of_getElem? (i := 24) rfl))) (mvT hZ (hw _ (List.mem_of_getElem? (i := 26) rfl))) (by decide) (backOf (W := 1) (rm_sinit l Z a0 hw [] b32 bb h38 n0 Z40 f39_47 f39_48 f39_49 g33) hZ (hw _ (List.mem_of_getElem? (i := 26) rfl)) (hw _ (List.mem_of_getElem? (i := 11) rfl)) (by decide) (by decide)) (g := (mkF mt 22 #[.val (.int x)] [(.int (0 : Int32)), (.ref bb), (.ref b32), (.ref b32)])) rfl (by rw [hml]; rfl) (Steps.refl _) (a := b32) (argsL := [(.ref bb), (.int (0 : Int32))]) (rest := [(.ref b32)]) (lenOf pd_2 rfl) rfl (by show 2 * 0 + _ ≤ _; exact Nat.le_of_eq rfl) (hb hby d_jdk_42_method_139_22) (fun _ _ => ⟨rfl, e38, (by decide : 2 + 0 ≤ _), (by decide : 5 + 0 ≤ _)⟩)
  dsimp only [Pt.U, Pt.locs, Pt.cells, Pt.slots] at X42 l42 y42 z42 st42 hQ42
  subst y42 z42
  replace X42 : Stand p l e _ s mt args below meth cd T42 L42 2 5 := X42
  obtain ⟨h42, e42⟩ : ∃ z, T42.heap = z := ⟨_, rfl⟩
  rw [e42] at hQ42
  obtain ⟨rfl, Nq42, K42, fv42, fc42⟩ := hQ42
  have N42 : Fr n0 L42 := by rw [l42]; exact Fr.app N38 Nq42
  have f43_66 := f39_46.keep K42 (allS g33 all0)
  have f43_67 := f39_47.keep K42
  have f43_68 := V38.keep K42 (ninS (Ne.symm nab) nin0)
  have Z44 : n0 ≤ h42.size := Nat.le_trans Z40 K42.1
  have K45 : Keep h0 h42 [] := Keep.trans K41 K42 (allS (Or.inr z34) all0)
  refine Win.tr ?_ st42
  show Win p e below _ T42 (mkF mt 25 #[.val (.int x)] [(.ref b32)])
  exact Win.ret X42 hx hlk e42 hrt rfl (Or.inr (Or.inr (Or.inr (Or.inr ⟨rfl, rfl, rfl⟩)))) (hb hby d_jdk_42_method_139_25) (by decide) (by decide) ⟨_, rfl, N42, K45, g33, z34, bb, kb, gb38, szb, f43_67, fv42, fc42, f43_68⟩
theorem d_jdk_42_method_152_0 : decode jdk_42_method_152_code 0 = .ok (.getstatic 38, 3) := by decide +kernel
theorem d_jdk_42_method_152_3 : decode jdk_42_method_152_code 3 = .ok (.ifCond .eq 10, 3) := by decide +kernel
theorem d_jdk_42_method_152_6 : decode jdk_42_method_152_code 6 = .ok (.aload_n 0, 1) := by decide +kernel
theorem d_jdk_42_method_152_7 : decode jdk_42_method_152_code 7 = .ok (.getfield 15, 3) := by decide +kernel
theorem d_jdk_42_method_152_10 : decode jdk_42_method_152_code 10 = .ok (.goto 4, 3) := by decide +kernel
theorem d_jdk_42_method_152_14 : decode jdk_42_method_152_code 14 = .ok (.ireturn, 1) := by decide +kernel
theorem ef_coder (mt : MethodId) (a : Addr) : entryFrame mt #[(.ref a)] 1 = mkF mt 0 #[.val (.ref a)] [] := by first | (simp [entryFrame, mkF, argsToLocals, Value.category]; done) | rfl
def Q_coder (Z : State) (a : Addr) (cs : Int32) (h0 : Heap) (n0 : Nat) (v : Option Value) (h : Heap) (L : List Loc) : Prop := v = some (.int (0 : Int32)) ∧ Fr n0 L ∧ h = h0
set_option maxRecDepth 65536 in
set_option maxHeartbeats 40000000 in
theorem rm_coder (l : Launch) (Z : State) (a0 : Array Value) (hw : ∀ d ∈ tables_1, d.before a0 Z = true) (ws : List Jvm.Cond) (a : Addr) (cs : Int32) (h0 : Heap) (n0 : Nat) (Z0 : n0 ≤ h0.size) (Fc : Fld Z h0 a "java/lang/String" "coder" "B" (.int (0 : Int32))) (S0 : Sta Z Z.heap "java/lang/String" "COMPACT_STRINGS" "Z" (.int cs)) (hcs : ¬ cs = (0 : Int32)) (O : Old Z n0 h0) :
    MetFree l (⟨"java/lang/String", "coder", "()B"⟩ : MethodName) (head1 (Jvm.Cond.code (⟨"java/lang/String", "coder", "()B"⟩ : MethodName) jdk_42_method_152_code 1 (some .byte) :: ws) ({ frames := 0, cells := 0, slots := 0, locals := 0 } : Room)) (fun aa UU => aa = #[(.ref a)] ∧ Z.Warmed39 UU.vm ∧ UU.heap = h0) (fun _ _ _ _ _ => True) (fun _ UU oo UU' => ∃ vv LL, oo = .returned vv ∧ Q_coder Z a cs h0 n0 vv UU'.heap LL ∧ FrameEnd UU oo UU' LL ({ frames := 0, cells := 0, slots := 0, locals := 0 } : Room).cells ({ frames := 0, cells := 0, slots := 0, locals := 0 } : Room).slots) := by
  refine MetFree.of_bodySF (plainFor_of_name pn_2) hisR ?_
  intro p e s mt args below meth cd s₁ Bd hml0 hP hK
  obtain ⟨hA, hZ, hh⟩ := hP
  have hx := Bd.exec
  have hby := Bd.bytes
  have hml : cd.maxLocals = 1 := hml0
  have hown : s.vm.findClass "java/lang/String" = some mt.cls := findClass_of_methodNamed Bd.named
  have hnm := (name_of_methodNamed Bd.named Bd.method).1
  have hlk : meth.locks = false := BodyLoose.notSynchronized Bd
  have hrt := Bd.returns
  have X0 : Stand p l e ({ frames := 0, cells := 0, slots := 0, locals := 0 } : Room) s mt args below meth cd s₁ [] 0 0 := Stand.of_body Bd
  have e0 : s₁.heap = h0 := by rw [← hh, Bd.state]; rfl
  have N0 := Fr.nil n0
  show Win p e below (Ends s (Q_coder Z a cs h0 n0) ({ frames := 0, cells := 0, slots := 0, locals := 0 } : Room).cells ({ frames := 0, cells := 0, slots := 0, locals := 0 } : Room).slots) s₁ (entryFrame mt args 1)
  rw [hA, ef_coder]
  obtain ⟨T46, X46, e46, st46⟩ := getS2 X0 hx hZ hown (host := "") (Or.inl (hw _ (List.mem_of_getElem? (i := 13) rfl))) Via.refl e0 (S0.ext O.2) (g := (mkF mt 0 #[.val (.ref a)] [])) rfl (hb hby d_jdk_42_method_152_0)
  refine Win.st ?_ st46
  show Win p e below _ T46 (mkF mt 3 #[.val (.ref a)] [(.int cs)])
  refine Win.st ?_ (fun tq kq => XS.ifNo X46.here hx rfl (hb hby d_jdk_42_method_152_3) rfl ((if0 _ _).trans (feq hcs).1) kq)
  show Win p e below _ T46 (mkF mt 6 #[.val (.ref a)] [])
  refine Win.st ?_ (fun tq kq => XS.aloadN X46.here hx rfl (hb hby d_jdk_42_method_152_6) rfl rfl kq)
  show Win p e below _ T46 (mkF mt 7 #[.val (.ref a)] [(.ref a)])
  obtain ⟨T47, X47, e47, st47⟩ := getF X46 hx hZ hown (host := "") (Or.inl (hw _ (List.mem_of_getElem? (i := 32) rfl))) Via.refl e46 Fc (g := (mkF mt 7 #[.val (.ref a)] [(.ref a)])) rfl rfl (hb hby d_jdk_42_method_152_7)
  refine Win.st ?_ st47
  show Win p e below _ T47 (mkF mt 10 #[.val (.ref a)] [(.int (0 : Int32))])
  refine Win.st ?_ (fun tq kq => XS.goto X47.here hx rfl (pc0 := 10) (pc' := 14) rfl (hb hby d_jdk_42_method_152_10) (by decide) (by decide) kq)
  show Win p e below _ T47 (mkF mt 14 #[.val (.ref a)] [(.int (0 : Int32))])
  exact Win.retN X47 hx hlk e47 (t := .byte) (z' := (0 : Int32)) hrt (by simp) (hb hby d_jdk_42_method_152_14) (by decide) (by decide) rfl ⟨rfl, N0, rfl⟩
theorem d_jdk_42_method_54_0 : decode jdk_42_method_54_code 0 = .ok (.aload_n 0, 1) := by decide +kernel
theorem d_jdk_42_method_54_1 : decode jdk_42_method_54_code 1 = .ok (.getfield 9, 3) := by decide +kernel
theorem d_jdk_42_method_54_4 : decode jdk_42_method_54_code 4 = .ok (.arraylength, 1) := by decide +kernel
theorem d_jdk_42_method_54_5 : decode jdk_42_method_54_code 5 = .ok (.aload_n 0, 1) := by decide +kernel
theorem d_jdk_42_method_54_6 : decode jdk_42_method_54_code 6 = .ok (.invokevirtual 335, 3) := by decide +kernel
theorem pd_3 : parseMethodDescriptor "()B" = some ⟨[], some .byte⟩ := by decide +kernel
theorem d_jdk_42_method_54_9 : decode jdk_42_method_54_code 9 = .ok (.ishr, 1) := by decide +kernel
theorem d_jdk_42_method_54_10 : decode jdk_42_method_54_code 10 = .ok (.ireturn, 1) := by decide +kernel
theorem ef_slen (mt : MethodId) (a : Addr) : entryFrame mt #[(.ref a)] 1 = mkF mt 0 #[.val (.ref a)] [] := by first | (simp [entryFrame, mkF, argsToLocals, Value.category]; done) | rfl
def Q_slen (Z : State) (a : Addr) (b : Addr) (k : ClassId) (z : Int32) (vs : List Value) (cs : Int32) (h0 : Heap) (n0 : Nat) (v : Option Value) (h : Heap) (L : List Loc) : Prop := v = some (.int z) ∧ Fr n0 L ∧ h = h0
set_option maxRecDepth 65536 in
set_option maxHeartbeats 40000000 in
theorem rm_slen (l : Launch) (Z : State) (a0 : Array Value) (hw : ∀ d ∈ tables_1, d.before a0 Z = true) (ws : List Jvm.Cond) (a : Addr) (b : Addr) (k : ClassId) (z : Int32) (vs : List Value) (cs : Int32) (h0 : Heap) (n0 : Nat) (Z0 : n0 ≤ h0.size) (E : Exa Z h0 a "java/lang/String") (Fv : Fld Z h0 a "java/lang/String" "value" "[B" (.ref b)) (Fc : Fld Z h0 a "java/lang/String" "coder" "B" (.int (0 : Int32))) (V : Arv Z h0 b k .byte z vs (.int (0 : Int32))) (S0 : Sta Z Z.heap "java/lang/String" "COMPACT_STRINGS" "Z" (.int cs)) (hcs : ¬ cs = (0 : Int32)) (O : Old Z n0 h0) :
    MetFree l (⟨"java/lang/String", "length", "()I"⟩ : MethodName) (head1 (Jvm.Cond.code (⟨"java/lang/String", "length", "()I"⟩ : MethodName) jdk_42_method_54_code 1 (some .int) :: ws) ({ frames := 1, cells := 0, slots := 0, locals := 13 } : Room)) (fun aa UU => aa = #[(.ref a)] ∧ Z.Warmed39 UU.vm ∧ UU.heap = h0) (fun _ _ _ _ _ => True) (fun _ UU oo UU' => ∃ vv LL, oo = .returned vv ∧ Q_slen Z a b k z vs cs h0 n0 vv UU'.heap LL ∧ FrameEnd UU oo UU' LL ({ frames := 1, cells := 0, slots := 0, locals := 13 } : Room).cells ({ frames := 1, cells := 0, slots := 0, locals := 13 } : Room).slots) := by
  refine MetFree.of_bodySF (plainFor_of_name pn_2) hisR ?_
  intro p e s mt args below meth cd s₁ Bd hml0 hP hK
  obtain ⟨hA, hZ, hh⟩ := hP
  have hx := Bd.exec
  have hby := Bd.bytes
  have hml : cd.maxLocals = 1 := hml0
  have hown : s.vm.findClass "java/lang/String" = some mt.cls := findClass_of_methodNamed Bd.named
  have hnm := (name_of_methodNamed Bd.named Bd.method).1
  have hlk : meth.locks = false := BodyLoose.notSynchronized Bd
  have hrt := Bd.returns
  have X0 : Stand p l e ({ frames := 1, cells := 0, slots := 0, locals := 13 } : Room) s mt args below meth cd s₁ [] 0 0 := Stand.of_body Bd
  have e0 : s₁.heap = h0 := by rw [← hh, Bd.state]; rfl
  have N0 := Fr.nil n0
  show Win p e below (Ends s (Q_slen Z a b k z vs cs h0 n0) ({ frames := 1, cells := 0, slots := 0, locals := 13 } : Room).cells ({ frames := 1, cells := 0, slots := 0, locals := 13 } : Room).slots) s₁ (entryFrame mt args 1)
  rw [hA, ef_slen]
  refine Win.st ?_ (fun tq kq => XS.aloadN X0.here hx rfl (hb hby d_jdk_42_method_54_0) rfl rfl kq)
  show Win p e below _ s₁ (mkF mt 1 #[.val (.ref a)] [(.ref a)])
  obtain ⟨T48, X48, e48, st48⟩ := getF X0 hx hZ hown (host := "") (Or.inl (hw _ (List.mem_of_getElem? (i := 30) rfl))) Via.refl e0 Fv (g := (mkF mt 1 #[.val (.ref a)] [(.ref a)])) rfl rfl (hb hby d_jdk_42_method_54_1)
  refine Win.st ?_ st48
  show Win p e below _ T48 (mkF mt 4 #[.val (.ref a)] [(.ref b)])
  refine Win.st ?_ (own_alen (g := (mkF mt 4 #[.val (.ref a)] [(.ref b)])) X48 hx hZ e48 V rfl rfl (hb hby d_jdk_42_method_54_4))
  show Win p e below _ T48 (mkF mt 5 #[.val (.ref a)] [(.int z)])
  refine Win.st ?_ (fun tq kq => XS.aloadN X48.here hx rfl (hb hby d_jdk_42_method_54_5) rfl rfl kq)
  show Win p e below _ T48 (mkF mt 6 #[.val (.ref a)] [(.ref a), (.int z)])
  obtain ⟨cq49, kq49, q49a, q49b, q49c⟩ := isOf hZ e48 E
  obtain ⟨v49, _, ⟨T49, L49, k49, n49⟩, -, X49, ⟨Lc49, hQ49, l49, y49, z49⟩, st49⟩ := X48.virtualBack hx (y := (⟨"java/lang/String", "coder", "()B"⟩ : MethodName)) (z := (⟨"java/lang/String", "coder", "()B"⟩ : MethodName)) hown (mvT hZ (hw _ (List.mem_of_getElem? (i := 45) rfl))) (mvT hZ (hw _ (List.mem_of_getElem? (i := 46) rfl))) (notFace_of_selects (args := #[]) (mvT hZ (hw _ (List.mem_of_getElem? (i := 48) rfl)))) (mvT hZ (hw _ (List.mem_of_getElem? (i := 48) rfl))) (mvT hZ (hw _ (List.mem_of_getElem? (i := 47) rfl))) (by decide) (backOf (W := 1) (rm_coder l Z a0 hw [] a cs h0 n0 Z0 Fc S0 hcs O) hZ (hw _ (List.mem_of_getElem? (i := 49) rfl)) (hw _ (List.mem_of_getElem? (i := 11) rfl)) (by decide) (by decide)) q49a q49c (g := (mkF mt 6 #[.val (.ref a)] [(.ref a), (.int z)])) rfl (by rw [hml]; rfl) (Steps.refl _) (argsL := []) (rest := [(.int z)]) (lenOf pd_3 rfl) rfl (by show 2 * 0 + _ ≤ _; exact Nat.le_of_eq rfl) (hb hby d_jdk_42_method_54_6) (fun _ _ => ⟨rfl, e48, (by decide : 0 + 0 ≤ _), (by decide : 0 + 0 ≤ _)⟩)
  dsimp only [Pt.U, Pt.locs, Pt.cells, Pt.slots] at X49 l49 y49 z49 st49 hQ49
  subst y49 z49
  replace X49 : Stand p l e _ s mt args below meth cd T49 L49 0 0 := X49
  obtain ⟨h49, e49⟩ : ∃ z, T49.heap = z := ⟨_, rfl⟩
  rw [e49] at hQ49
  obtain ⟨rfl, Nq49, eh49⟩ := hQ49
  have N49 : Fr n0 L49 := by rw [l49]; exact Fr.app N0 Nq49
  rw [eh49] at e49
  refine Win.tr ?_ st49
  show Win p e below _ T49 (mkF mt 9 #[.val (.ref a)] [(.int (0 : Int32)), (.int z)])
  refine Win.st ?_ (fun tq kq => XS.ishr X49.here hx rfl (hb hby d_jdk_42_method_54_9) rfl kq)
  show Win p e below _ T49 (mkF mt 10 #[.val (.ref a)] [(.int (z >>> ((0 : Int32) &&& 31)))])
  exact Win.ret X49 hx hlk e49 hrt rfl (Or.inl ⟨rfl, Or.inl rfl, _, rfl⟩) (hb hby d_jdk_42_method_54_10) (by decide) (by decide) ⟨by rw [own_shr0], N49, rfl⟩
theorem d_jdk_42_method_154_0 : decode jdk_42_method_154_code 0 = .ok (.getstatic 38, 3) := by decide +kernel
theorem d_jdk_42_method_154_3 : decode jdk_42_method_154_code 3 = .ok (.ifCond .eq 14, 3) := by decide +kernel
theorem d_jdk_42_method_154_6 : decode jdk_42_method_154_code 6 = .ok (.aload_n 0, 1) := by decide +kernel
theorem d_jdk_42_method_154_7 : decode jdk_42_method_154_code 7 = .ok (.getfield 15, 3) := by decide +kernel
theorem d_jdk_42_method_154_10 : decode jdk_42_method_154_code 10 = .ok (.ifCond .ne 7, 3) := by decide +kernel
theorem d_jdk_42_method_154_13 : decode jdk_42_method_154_code 13 = .ok (.iconst 1, 1) := by decide +kernel
theorem d_jdk_42_method_154_14 : decode jdk_42_method_154_code 14 = .ok (.goto 4, 3) := by decide +kernel
theorem d_jdk_42_method_154_18 : decode jdk_42_method_154_code 18 = .ok (.ireturn, 1) := by decide +kernel
theorem ef_islatin1 (mt : MethodId) (a : Addr) : entryFrame mt #[(.ref a)] 1 = mkF mt 0 #[.val (.ref a)] [] := by first | (simp [entryFrame, mkF, argsToLocals, Value.category]; done) | rfl
def Q_islatin1 (Z : State) (a : Addr) (cs : Int32) (h0 : Heap) (n0 : Nat) (v : Option Value) (h : Heap) (L : List Loc) : Prop := v = some (.int (1 : Int32)) ∧ Fr n0 L ∧ h = h0
set_option maxRecDepth 65536 in
set_option maxHeartbeats 40000000 in
theorem rm_islatin1 (l : Launch) (Z : State) (a0 : Array Value) (hw : ∀ d ∈ tables_1, d.before a0 Z = true) (ws : List Jvm.Cond) (a : Addr) (cs : Int32) (h0 : Heap) (n0 : Nat) (Z0 : n0 ≤ h0.size) (Fc : Fld Z h0 a "java/lang/String" "coder" "B" (.int (0 : Int32))) (S0 : Sta Z Z.heap "java/lang/String" "COMPACT_STRINGS" "Z" (.int cs)) (hcs : ¬ cs = (0 : Int32)) (O : Old Z n0 h0) :
    MetFree l (⟨"java/lang/String", "isLatin1", "()Z"⟩ : MethodName) (head1 (Jvm.Cond.code (⟨"java/lang/String", "isLatin1", "()Z"⟩ : MethodName) jdk_42_method_154_code 1 (some .boolean) :: ws) ({ frames := 0, cells := 0, slots := 0, locals := 0 } : Room)) (fun aa UU => aa = #[(.ref a)] ∧ Z.Warmed39 UU.vm ∧ UU.heap = h0) (fun _ _ _ _ _ => True) (fun _ UU oo UU' => ∃ vv LL, oo = .returned vv ∧ Q_islatin1 Z a cs h0 n0 vv UU'.heap LL ∧ FrameEnd UU oo UU' LL ({ frames := 0, cells := 0, slots := 0, locals := 0 } : Room).cells ({ frames := 0, cells := 0, slots := 0, locals := 0 } : Room).slots) := by
  refine MetFree.of_bodySF (plainFor_of_name pn_2) hisR ?_
  intro p e s mt args below meth cd s₁ Bd hml0 hP hK
  obtain ⟨hA, hZ, hh⟩ := hP
  have hx := Bd.exec
  have hby := Bd.bytes
  have hml : cd.maxLocals = 1 := hml0
  have hown : s.vm.findClass "java/lang/String" = some mt.cls := findClass_of_methodNamed Bd.named
  have hnm := (name_of_methodNamed Bd.named Bd.method).1
  have hlk : meth.locks = false := BodyLoose.notSynchronized Bd
  have hrt := Bd.returns
  have X0 : Stand p l e ({ frames := 0, cells := 0, slots := 0, locals := 0 } : Room) s mt args below meth cd s₁ [] 0 0 := Stand.of_body Bd
  have e0 : s₁.heap = h0 := by rw [← hh, Bd.state]; rfl
  have N0 := Fr.nil n0
  show Win p e below (Ends s (Q_islatin1 Z a cs h0 n0) ({ frames := 0, cells := 0, slots := 0, locals := 0 } : Room).cells ({ frames := 0, cells := 0, slots := 0, locals := 0 } : Room).slots) s₁ (entryFrame mt args 1)
  rw [hA, ef_islatin1]
  obtain ⟨T50, X50, e50, st50⟩ := getS2 X0 hx hZ hown (host := "") (Or.inl (hw _ (List.mem_of_getElem? (i := 13) rfl))) Via.refl e0 (S0.ext O.2) (g := (mkF mt 0 #[.val (.ref a)] [])) rfl (hb hby d_jdk_42_method_154_0)
  refine Win.st ?_ st50
  show Win p e below _ T50 (mkF mt 3 #[.val (.ref a)] [(.int cs)])
  refine Win.st ?_ (fun tq kq => XS.ifNo X50.here hx rfl (hb hby d_jdk_42_method_154_3) rfl ((if0 _ _).trans (feq hcs).1) kq)
  show Win p e below _ T50 (mkF mt 6 #[.val (.ref a)] [])
  refine Win.st ?_ (fun tq kq => XS.aloadN X50.here hx rfl (hb hby d_jdk_42_method_154_6) rfl rfl kq)
  show Win p e below _ T50 (mkF mt 7 #[.val (.ref a)] [(.ref a)])
  obtain ⟨T51, X51, e51, st51⟩ := getF X50 hx hZ hown (host := "") (Or.inl (hw _ (List.mem_of_getElem? (i := 32) rfl))) Via.refl e50 Fc (g := (mkF mt 7 #[.val (.ref a)] [(.ref a)])) rfl rfl (hb hby d_jdk_42_method_154_7)
  refine Win.st ?_ st51
  show Win p e below _ T51 (mkF mt 10 #[.val (.ref a)] [(.int (0 : Int32))])
  refine Win.st ?_ (fun tq kq => XS.ifNo X51.here hx rfl (hb hby d_jdk_42_method_154_10) rfl ((if0 _ _).trans (teq (rfl : (0 : Int32) = (0 : Int32))).2) kq)
  show Win p e below _ T51 (mkF mt 13 #[.val (.ref a)] [])
  refine Win.st ?_ (fun tq kq => XS.iconst X51.here hx rfl (hb hby d_jdk_42_method_154_13) kq)
  show Win p e below _ T51 (mkF mt 14 #[.val (.ref a)] [(.int (1 : Int32))])
  refine Win.st ?_ (fun tq kq => XS.goto X51.here hx rfl (pc0 := 14) (pc' := 18) rfl (hb hby d_jdk_42_method_154_14) (by decide) (by decide) kq)
  show Win p e below _ T51 (mkF mt 18 #[.val (.ref a)] [(.int (1 : Int32))])
  exact Win.retN X51 hx hlk e51 (t := .boolean) (z' := (1 : Int32)) hrt (by simp) (hb hby d_jdk_42_method_154_18) (by decide) (by decide) rfl ⟨rfl, N0, rfl⟩
theorem d_jdk_41_method_11_0 : decode jdk_41_method_11_code 0 = .ok (.iload_n 0, 1) := by decide +kernel
theorem d_jdk_41_method_11_1 : decode jdk_41_method_11_code 1 = .ok (.ifCond .lt 8, 3) := by decide +kernel
theorem d_jdk_41_method_11_4 : decode jdk_41_method_11_code 4 = .ok (.iload_n 0, 1) := by decide +kernel
theorem d_jdk_41_method_11_5 : decode jdk_41_method_11_code 5 = .ok (.iload_n 1, 1) := by decide +kernel
theorem d_jdk_41_method_11_6 : decode jdk_41_method_11_code 6 = .ok (.if_icmp .lt 10, 3) := by decide +kernel
theorem d_jdk_41_method_11_16 : decode jdk_41_method_11_code 16 = .ok (.iload_n 0, 1) := by decide +kernel
theorem d_jdk_41_method_11_17 : decode jdk_41_method_11_code 17 = .ok (.ireturn, 1) := by decide +kernel
theorem pn_3 : plainName "jdk/internal/util/Preconditions" = true := by first | (simp [plainName, overriddenIn]; done) | decide +kernel
theorem ef_pci (mt : MethodId) (j : Int32) (n_ : Int32) (u : Value) (hu : u.isRef = true) : entryFrame mt #[(.int j), (.int n_), u] 3 = mkF mt 0 #[.val (.int j), .val (.int n_), .val u] [] := by rcases ref_cases hu with rfl | ⟨z, rfl⟩ <;> first | (simp [entryFrame, mkF, argsToLocals, Value.category]; done) | rfl
def Q_pci (Z : State) (j : Int32) (n_ : Int32) (u : Value) (h0 : Heap) (n0 : Nat) (v : Option Value) (h : Heap) (L : List Loc) : Prop := v = some (.int j) ∧ Fr n0 L ∧ h = h0
set_option maxRecDepth 65536 in
set_option maxHeartbeats 40000000 in
theorem rm_pci (l : Launch) (Z : State) (a0 : Array Value) (hw : ∀ d ∈ tables_1, d.before a0 Z = true) (ws : List Jvm.Cond) (j : Int32) (n_ : Int32) (u : Value) (h0 : Heap) (n0 : Nat) (Z0 : n0 ≤ h0.size) (hu : u.isRef = true) (h1 : ¬ j < 0) (h2 : j < n_) :
    MetFree l (⟨"jdk/internal/util/Preconditions", "checkIndex", "(IILjava/util/function/BiFunction;)I"⟩ : MethodName) (head1 (Jvm.Cond.code (⟨"jdk/internal/util/Preconditions", "checkIndex", "(IILjava/util/function/BiFunction;)I"⟩ : MethodName) jdk_41_method_11_code 3 (some .int) :: ws) ({ frames := 0, cells := 0, slots := 0, locals := 0 } : Room)) (fun aa UU => aa = #[(.int j), (.int n_), u] ∧ Z.Warmed39 UU.vm ∧ UU.heap = h0) (fun _ _ _ _ _ => True) (fun _ UU oo UU' => ∃ vv LL, oo = .returned vv ∧ Q_pci Z j n_ u h0 n0 vv UU'.heap LL ∧ FrameEnd UU oo UU' LL ({ frames := 0, cells := 0, slots := 0, locals := 0 } : Room).cells ({ frames := 0, cells := 0, slots := 0, locals := 0 } : Room).slots) := by
  refine MetFree.of_bodySF (plainFor_of_name pn_3) hisR ?_
  intro p e s mt args below meth cd s₁ Bd hml0 hP hK
  obtain ⟨hA, hZ, hh⟩ := hP
  have hx := Bd.exec
  have hby := Bd.bytes
  have hml : cd.maxLocals = 3 := hml0
  have hown : s.vm.findClass "jdk/internal/util/Preconditions" = some mt.cls := findClass_of_methodNamed Bd.named
  have hnm := (name_of_methodNamed Bd.named Bd.method).1
  have hlk : meth.locks = false := BodyLoose.notSynchronized Bd
  have hrt := Bd.returns
  have X0 : Stand p l e ({ frames := 0, cells := 0, slots := 0, locals := 0 } : Room) s mt args below meth cd s₁ [] 0 0 := Stand.of_body Bd
  have e0 : s₁.heap = h0 := by rw [← hh, Bd.state]; rfl
  have N0 := Fr.nil n0
  show Win p e below (Ends s (Q_pci Z j n_ u h0 n0) ({ frames := 0, cells := 0, slots := 0, locals := 0 } : Room).cells ({ frames := 0, cells := 0, slots := 0, locals := 0 } : Room).slots) s₁ (entryFrame mt args 3)
  rw [hA, ef_pci mt _ _ _ hu]
  refine Win.st ?_ (fun tq kq => XS.iloadN X0.here hx rfl (hb hby d_jdk_41_method_11_0) rfl kq)
  show Win p e below _ s₁ (mkF mt 1 #[.val (.int j), .val (.int n_), .val u] [(.int j)])
  refine Win.st ?_ (fun tq kq => XS.ifNo X0.here hx rfl (hb hby d_jdk_41_method_11_1) rfl ((if0 _ _).trans (flt h1).1) kq)
  show Win p e below _ s₁ (mkF mt 4 #[.val (.int j), .val (.int n_), .val u] [])
  refine Win.st ?_ (fun tq kq => XS.iloadN X0.here hx rfl (hb hby d_jdk_41_method_11_4) rfl kq)
  show Win p e below _ s₁ (mkF mt 5 #[.val (.int j), .val (.int n_), .val u] [(.int j)])
  refine Win.st ?_ (fun tq kq => XS.iloadN X0.here hx rfl (hb hby d_jdk_41_method_11_5) rfl kq)
  show Win p e below _ s₁ (mkF mt 6 #[.val (.int j), .val (.int n_), .val u] [(.int n_), (.int j)])
  refine Win.st ?_ (fun tq kq => XS.icmpYes X0.here hx rfl (pc0 := 6) (pc' := 16) rfl (hb hby d_jdk_41_method_11_6) rfl (tlt h2).1 (by decide) (by decide) kq)
  show Win p e below _ s₁ (mkF mt 16 #[.val (.int j), .val (.int n_), .val u] [])
  refine Win.st ?_ (fun tq kq => XS.iloadN X0.here hx rfl (hb hby d_jdk_41_method_11_16) rfl kq)
  show Win p e below _ s₁ (mkF mt 17 #[.val (.int j), .val (.int n_), .val u] [(.int j)])
  exact Win.ret X0 hx hlk e0 hrt rfl (Or.inl ⟨rfl, Or.inl rfl, _, rfl⟩) (hb hby d_jdk_41_method_11_17) (by decide) (by decide) ⟨rfl, N0, rfl⟩
theorem d_jdk_42_method_155_0 : decode jdk_42_method_155_code 0 = .ok (.iload_n 0, 1) := by decide +kernel
theorem d_jdk_42_method_155_1 : decode jdk_42_method_155_code 1 = .ok (.iload_n 1, 1) := by decide +kernel
theorem d_jdk_42_method_155_2 : decode jdk_42_method_155_code 2 = .ok (.getstatic 1053, 3) := by decide +kernel
theorem d_jdk_42_method_155_5 : decode jdk_42_method_155_code 5 = .ok (.invokestatic 1059, 3) := by decide +kernel
theorem pd_4 : parseMethodDescriptor "(IILjava/util/function/BiFunction;)I" = some ⟨[.int, .int, (.object "java/util/function/BiFunction")], some .int⟩ := by decide +kernel
theorem d_jdk_42_method_155_8 : decode jdk_42_method_155_code 8 = .ok (.pop, 1) := by decide +kernel
theorem d_jdk_42_method_155_9 : decode jdk_42_method_155_code 9 = .ok (.return_, 1) := by decide +kernel
theorem ef_sci (mt : MethodId) (j : Int32) (n_ : Int32) : entryFrame mt #[(.int j), (.int n_)] 2 = mkF mt 0 #[.val (.int j), .val (.int n_)] [] := by first | (simp [entryFrame, mkF, argsToLocals, Value.category]; done) | rfl
def Q_sci (Z : State) (j : Int32) (n_ : Int32) (u : Value) (h0 : Heap) (n0 : Nat) (v : Option Value) (h : Heap) (L : List Loc) : Prop := v = none ∧ Fr n0 L ∧ h = h0
set_option maxRecDepth 65536 in
set_option maxHeartbeats 40000000 in
theorem rm_sci (l : Launch) (Z : State) (a0 : Array Value) (hw : ∀ d ∈ tables_1, d.before a0 Z = true) (ws : List Jvm.Cond) (j : Int32) (n_ : Int32) (u : Value) (h0 : Heap) (n0 : Nat) (Z0 : n0 ≤ h0.size) (h1 : ¬ j < 0) (h2 : j < n_) (S1 : Sta Z Z.heap "jdk/internal/util/Preconditions" "SIOOBE_FORMATTER" "Ljava/util/function/BiFunction;" u) (hu : u.isRef = true) (O : Old Z n0 h0) :
    MetFree l (⟨"java/lang/String", "checkIndex", "(II)V"⟩ : MethodName) (head1 (Jvm.Cond.code (⟨"java/lang/String", "checkIndex", "(II)V"⟩ : MethodName) jdk_42_method_155_code 2 none :: ws) ({ frames := 1, cells := 0, slots := 0, locals := 14 } : Room)) (fun aa UU => aa = #[(.int j), (.int n_)] ∧ Z.Warmed39 UU.vm ∧ UU.heap = h0) (fun _ _ _ _ _ => True) (fun _ UU oo UU' => ∃ vv LL, oo = .returned vv ∧ Q_sci Z j n_ u h0 n0 vv UU'.heap LL ∧ FrameEnd UU oo UU' LL ({ frames := 1, cells := 0, slots := 0, locals := 14 } : Room).cells ({ frames := 1, cells := 0, slots := 0, locals := 14 } : Room).slots) := by
  refine MetFree.of_bodySF (plainFor_of_name pn_2) hisR ?_
  intro p e s mt args below meth cd s₁ Bd hml0 hP hK
  obtain ⟨hA, hZ, hh⟩ := hP
  have hx := Bd.exec
  have hby := Bd.bytes
  have hml : cd.maxLocals = 2 := hml0
  have hown : s.vm.findClass "java/lang/String" = some mt.cls := findClass_of_methodNamed Bd.named
  have hnm := (name_of_methodNamed Bd.named Bd.method).1
  have hlk : meth.locks = false := BodyLoose.notSynchronized Bd
  have hrt := Bd.returns
  have X0 : Stand p l e ({ frames := 1, cells := 0, slots := 0, locals := 14 } : Room) s mt args below meth cd s₁ [] 0 0 := Stand.of_body Bd
  have e0 : s₁.heap = h0 := by rw [← hh, Bd.state]; rfl
  have N0 := Fr.nil n0
  show Win p e below (Ends s (Q_sci Z j n_ u h0 n0) ({ frames := 1, cells := 0, slots := 0, locals := 14 } : Room).cells ({ frames := 1, cells := 0, slots := 0, locals := 14 } : Room).slots) s₁ (entryFrame mt args 2)
  rw [hA, ef_sci]
  refine Win.st ?_ (fun tq kq => XS.iloadN X0.here hx rfl (hb hby d_jdk_42_method_155_0) rfl kq)
  show Win p e below _ s₁ (mkF mt 1 #[.val (.int j), .val (.int n_)] [(.int j)])
  refine Win.st ?_ (fun tq kq => XS.iloadN X0.here hx rfl (hb hby d_jdk_42_method_155_1) rfl kq)
  show Win p e below _ s₁ (mkF mt 2 #[.val (.int j), .val (.int n_)] [(.int n_), (.int j)])
  obtain ⟨T52, X52, e52, st52⟩ := getS2 X0 hx hZ hown (host := "") (Or.inl (hw _ (List.mem_of_getElem? (i := 66) rfl))) Via.refl e0 (S1.ext O.2) (g := (mkF mt 2 #[.val (.int j), .val (.int n_)] [(.int n_), (.int j)])) rfl (hb hby d_jdk_42_method_155_2)
  refine Win.st ?_ st52
  show Win p e below _ T52 (mkF mt 5 #[.val (.int j), .val (.int n_)] [u, (.int n_), (.int j)])
  obtain ⟨v53, _, ⟨T53, L53, k53, n53⟩, -, X53, ⟨Lc53, hQ53, l53, y53, z53⟩, st53⟩ := Jvm.LawKit.callS X52 hx (y := (⟨"jdk/internal/util/Preconditions", "checkIndex", "(IILjava/util/function/BiFunction;)I"⟩ : MethodName)) hown (mvT hZ (hw _ (List.mem_of_getElem? (i := 68) rfl))) (mvT hZ (hw _ (List.mem_of_getElem? (i := 69) rfl))) (mvT hZ (hw _ (List.mem_of_getElem? (i := 67) rfl))) (mvT hZ (hw _ (List.mem_of_getElem? (i := 70) rfl))) (by decide) (backOf (W := 0) (rm_pci l Z a0 hw [] j n_ u h0 n0 Z0 hu h1 h2) hZ (hw _ (List.mem_of_getElem? (i := 70) rfl)) (hw _ (List.mem_of_getElem? (i := 67) rfl)) (by decide) (by decide)) (g := (mkF mt 5 #[.val (.int j), .val (.int n_)] [u, (.int n_), (.int j)])) rfl (by rw [hml]; rfl) (argsL := [(.int j), (.int n_), u]) (rest := []) (lenOf pd_4 rfl) rfl (by show 2 * 0 + _ ≤ _; exact Nat.le_of_eq rfl) (hb hby d_jdk_42_method_155_5) (fun _ _ => ⟨rfl, e52, (by decide : 0 + 0 ≤ _), (by decide : 0 + 0 ≤ _)⟩)
  dsimp only [Pt.U, Pt.locs, Pt.cells, Pt.slots] at X53 l53 y53 z53 st53 hQ53
  subst y53 z53
  replace X53 : Stand p l e _ s mt args below meth cd T53 L53 0 0 := X53
  obtain ⟨h53, e53⟩ : ∃ z, T53.heap = z := ⟨_, rfl⟩
  rw [e53] at hQ53
  obtain ⟨rfl, Nq53, eh53⟩ := hQ53
  have N53 : Fr n0 L53 := by rw [l53]; exact Fr.app N0 Nq53
  rw [eh53] at e53
  refine Win.st ?_ st53
  show Win p e below _ T53 (mkF mt 8 #[.val (.int j), .val (.int n_)] [(.int j)])
  refine Win.st ?_ (fun tq kq => XS.pop X53.here hx rfl (hb hby d_jdk_42_method_155_8) rfl rfl kq)
  show Win p e below _ T53 (mkF mt 9 #[.val (.int j), .val (.int n_)] [])
  exact Win.retV X53 hx hlk e53 hrt (hb hby d_jdk_42_method_155_9) (by decide) (by decide) ⟨rfl, N53, rfl⟩
theorem d_jdk_43_method_2_0 : decode jdk_43_method_2_code 0 = .ok (.iload_n 1, 1) := by decide +kernel
theorem d_jdk_43_method_2_1 : decode jdk_43_method_2_code 1 = .ok (.aload_n 0, 1) := by decide +kernel
theorem d_jdk_43_method_2_2 : decode jdk_43_method_2_code 2 = .ok (.arraylength, 1) := by decide +kernel
theorem d_jdk_43_method_2_3 : decode jdk_43_method_2_code 3 = .ok (.invokestatic 9, 3) := by decide +kernel
theorem pd_5 : parseMethodDescriptor "(II)V" = some ⟨[.int, .int], none⟩ := by decide +kernel
theorem d_jdk_43_method_2_6 : decode jdk_43_method_2_code 6 = .ok (.aload_n 0, 1) := by decide +kernel
theorem d_jdk_43_method_2_7 : decode jdk_43_method_2_code 7 = .ok (.iload_n 1, 1) := by decide +kernel
theorem d_jdk_43_method_2_8 : decode jdk_43_method_2_code 8 = .ok (.baload, 1) := by decide +kernel
theorem d_jdk_43_method_2_9 : decode jdk_43_method_2_code 9 = .ok (.sipush 255, 3) := by decide +kernel
theorem d_jdk_43_method_2_12 : decode jdk_43_method_2_code 12 = .ok (.iand, 1) := by decide +kernel
theorem d_jdk_43_method_2_13 : decode jdk_43_method_2_code 13 = .ok (.i2c, 1) := by decide +kernel
theorem d_jdk_43_method_2_14 : decode jdk_43_method_2_code 14 = .ok (.ireturn, 1) := by decide +kernel
theorem ef_l1ch (mt : MethodId) (b : Addr) (j : Int32) : entryFrame mt #[(.ref b), (.int j)] 2 = mkF mt 0 #[.val (.ref b), .val (.int j)] [] := by first | (simp [entryFrame, mkF, argsToLocals, Value.category]; done) | rfl
def Q_l1ch (Z : State) (b : Addr) (j : Int32) (k : ClassId) (z : Int32) (vs : List Value) (bv : Int32) (u : Value) (h0 : Heap) (n0 : Nat) (v : Option Value) (h : Heap) (L : List Loc) : Prop := v = some (.int (bv &&& (255 : Int32))) ∧ Fr n0 L ∧ h = h0
set_option maxRecDepth 65536 in
set_option maxHeartbeats 40000000 in
theorem rm_l1ch (l : Launch) (Z : State) (a0 : Array Value) (hw : ∀ d ∈ tables_1, d.before a0 Z = true) (ws : List Jvm.Cond) (b : Addr) (j : Int32) (k : ClassId) (z : Int32) (vs : List Value) (bv : Int32) (u : Value) (h0 : Heap) (n0 : Nat) (Z0 : n0 ≤ h0.size) (V : Arv Z h0 b k .byte z vs (.int (0 : Int32))) (h1 : ¬ j < 0) (h2 : j < z) (hv : vs.getD j.toNatClampNeg (.int (0 : Int32)) = .int bv) (S1 : Sta Z Z.heap "jdk/internal/util/Preconditions" "SIOOBE_FORMATTER" "Ljava/util/function/BiFunction;" u) (hu : u.isRef = true) (O : Old Z n0 h0) :
    MetFree l (⟨"java/lang/StringLatin1", "charAt", "([BI)C"⟩ : MethodName) (head1 (Jvm.Cond.code (⟨"java/lang/StringLatin1", "charAt", "([BI)C"⟩ : MethodName) jdk_43_method_2_code 2 (some .char) :: ws) ({ frames := 2, cells := 0, slots := 0, locals := 27 } : Room)) (fun aa UU => aa = #[(.ref b), (.int j)] ∧ Z.Warmed39 UU.vm ∧ UU.heap = h0) (fun _ _ _ _ _ => True) (fun _ UU oo UU' => ∃ vv LL, oo = .returned vv ∧ Q_l1ch Z b j k z vs bv u h0 n0 vv UU'.heap LL ∧ FrameEnd UU oo UU' LL ({ frames := 2, cells := 0, slots := 0, locals := 27 } : Room).cells ({ frames := 2, cells := 0, slots := 0, locals := 27 } : Room).slots) := by
  refine MetFree.of_bodySF (plainFor_of_name pn_1) hisR ?_
  intro p e s mt args below meth cd s₁ Bd hml0 hP hK
  obtain ⟨hA, hZ, hh⟩ := hP
  have hx := Bd.exec
  have hby := Bd.bytes
  have hml : cd.maxLocals = 2 := hml0
  have hown : s.vm.findClass "java/lang/StringLatin1" = some mt.cls := findClass_of_methodNamed Bd.named
  have hnm := (name_of_methodNamed Bd.named Bd.method).1
  have hlk : meth.locks = false := BodyLoose.notSynchronized Bd
  have hrt := Bd.returns
  have X0 : Stand p l e ({ frames := 2, cells := 0, slots := 0, locals := 27 } : Room) s mt args below meth cd s₁ [] 0 0 := Stand.of_body Bd
  have e0 : s₁.heap = h0 := by rw [← hh, Bd.state]; rfl
  have N0 := Fr.nil n0
  show Win p e below (Ends s (Q_l1ch Z b j k z vs bv u h0 n0) ({ frames := 2, cells := 0, slots := 0, locals := 27 } : Room).cells ({ frames := 2, cells := 0, slots := 0, locals := 27 } : Room).slots) s₁ (entryFrame mt args 2)
  rw [hA, ef_l1ch]
  refine Win.st ?_ (fun tq kq => XS.iloadN X0.here hx rfl (hb hby d_jdk_43_method_2_0) rfl kq)
  show Win p e below _ s₁ (mkF mt 1 #[.val (.ref b), .val (.int j)] [(.int j)])
  refine Win.st ?_ (fun tq kq => XS.aloadN X0.here hx rfl (hb hby d_jdk_43_method_2_1) rfl rfl kq)
  show Win p e below _ s₁ (mkF mt 2 #[.val (.ref b), .val (.int j)] [(.ref b), (.int j)])
  refine Win.st ?_ (own_alen (g := (mkF mt 2 #[.val (.ref b), .val (.int j)] [(.ref b), (.int j)])) X0 hx hZ e0 V rfl rfl (hb hby d_jdk_43_method_2_2))
  show Win p e below _ s₁ (mkF mt 3 #[.val (.ref b), .val (.int j)] [(.int z), (.int j)])
  obtain ⟨v54, _, ⟨T54, L54, k54, n54⟩, -, X54, ⟨Lc54, hQ54, l54, y54, z54⟩, st54⟩ := Jvm.LawKit.callS X0 hx (y := (⟨"java/lang/String", "checkIndex", "(II)V"⟩ : MethodName)) hown (mvT hZ (hw _ (List.mem_of_getElem? (i := 63) rfl))) (mvT hZ (hw _ (List.mem_of_getElem? (i := 64) rfl))) (mvT hZ (hw _ (List.mem_of_getElem? (i := 11) rfl))) (mvT hZ (hw _ (List.mem_of_getElem? (i := 65) rfl))) (by decide) (backOf (W := 0) (rm_sci l Z a0 hw [] j z u h0 n0 Z0 h1 h2 S1 hu O) hZ (hw _ (List.mem_of_getElem? (i := 65) rfl)) (hw _ (List.mem_of_getElem? (i := 11) rfl)) (by decide) (by decide)) (g := (mkF mt 3 #[.val (.ref b), .val (.int j)] [(.int z), (.int j)])) rfl (by rw [hml]; rfl) (argsL := [(.int j), (.int z)]) (rest := []) (lenOf pd_5 rfl) rfl (by show 2 * 0 + _ ≤ _; exact Nat.le_of_eq rfl) (hb hby d_jdk_43_method_2_3) (fun _ _ => ⟨rfl, e0, (by decide : 0 + 0 ≤ _), (by decide : 0 + 0 ≤ _)⟩)
  dsimp only [Pt.U, Pt.locs, Pt.cells, Pt.slots] at X54 l54 y54 z54 st54 hQ54
  subst y54 z54
  replace X54 : Stand p l e _ s mt args below meth cd T54 L54 0 0 := X54
  obtain ⟨h54, e54⟩ : ∃ z, T54.heap = z := ⟨_, rfl⟩
  rw [e54] at hQ54
  obtain ⟨rfl, Nq54, eh54⟩ := hQ54
  have N54 : Fr n0 L54 := by rw [l54]; exact Fr.app N0 Nq54
  rw [eh54] at e54
  refine Win.st ?_ st54
  show Win p e below _ T54 (mkF mt 6 #[.val (.ref b), .val (.int j)] [])
  refine Win.st ?_ (fun tq kq => XS.aloadN X54.here hx rfl (hb hby d_jdk_43_method_2_6) rfl rfl kq)
  show Win p e below _ T54 (mkF mt 7 #[.val (.ref b), .val (.int j)] [(.ref b)])
  refine Win.st ?_ (fun tq kq => XS.iloadN X54.here hx rfl (hb hby d_jdk_43_method_2_7) rfl kq)
  show Win p e below _ T54 (mkF mt 8 #[.val (.ref b), .val (.int j)] [(.int j), (.ref b)])
  refine Win.st ?_ (own_bald (g := (mkF mt 8 #[.val (.ref b), .val (.int j)] [(.int j), (.ref b)])) X54 hx hZ e54 V (j := j) (v := (.int bv)) h1 h2 hv rfl rfl (hb hby d_jdk_43_method_2_8))
  show Win p e below _ T54 (mkF mt 9 #[.val (.ref b), .val (.int j)] [(.int bv)])
  refine Win.st ?_ (fun tq kq => XS.sipush X54.here hx rfl (hb hby d_jdk_43_method_2_9) kq)
  show Win p e below _ T54 (mkF mt 12 #[.val (.ref b), .val (.int j)] [(.int (255 : Int32)), (.int bv)])
  refine Win.st ?_ (fun tq kq => XS.iand X54.here hx rfl (hb hby d_jdk_43_method_2_12) rfl kq)
  show Win p e below _ T54 (mkF mt 13 #[.val (.ref b), .val (.int j)] [(.int (bv &&& (255 : Int32)))])
  refine Win.st ?_ (fun tq kq => XS.i2c X54.here hx rfl (hb hby d_jdk_43_method_2_13) rfl kq)
  show Win p e below _ T54 (mkF mt 14 #[.val (.ref b), .val (.int j)] [(.int ((bv &&& (255 : Int32)).toUInt32.toUInt16.toUInt32.toInt32))])
  exact Win.retN X54 hx hlk e54 (t := .char) (z' := (bv &&& (255 : Int32))) hrt (by simp) (hb hby d_jdk_43_method_2_14) (by decide) (by decide) (own_narc bv) ⟨rfl, N54, rfl⟩
theorem d_jdk_42_method_56_0 : decode jdk_42_method_56_code 0 = .ok (.aload_n 0, 1) := by decide +kernel
theorem d_jdk_42_method_56_1 : decode jdk_42_method_56_code 1 = .ok (.invokevirtual 492, 3) := by decide +kernel
theorem pd_6 : parseMethodDescriptor "()Z" = some ⟨[], some .boolean⟩ := by decide +kernel
theorem d_jdk_42_method_56_4 : decode jdk_42_method_56_code 4 = .ok (.ifCond .eq 12, 3) := by decide +kernel
theorem d_jdk_42_method_56_7 : decode jdk_42_method_56_code 7 = .ok (.aload_n 0, 1) := by decide +kernel
theorem d_jdk_42_method_56_8 : decode jdk_42_method_56_code 8 = .ok (.getfield 9, 3) := by decide +kernel
theorem d_jdk_42_method_56_11 : decode jdk_42_method_56_code 11 = .ok (.iload_n 1, 1) := by decide +kernel
theorem d_jdk_42_method_56_12 : decode jdk_42_method_56_code 12 = .ok (.invokestatic 495, 3) := by decide +kernel
theorem pd_7 : parseMethodDescriptor "([BI)C" = some ⟨[(.array .byte), .int], some .char⟩ := by decide +kernel
theorem d_jdk_42_method_56_15 : decode jdk_42_method_56_code 15 = .ok (.ireturn, 1) := by decide +kernel
theorem ef_sch (mt : MethodId) (a : Addr) (j : Int32) : entryFrame mt #[(.ref a), (.int j)] 2 = mkF mt 0 #[.val (.ref a), .val (.int j)] [] := by first | (simp [entryFrame, mkF, argsToLocals, Value.category]; done) | rfl
def Q_sch (Z : State) (a : Addr) (j : Int32) (b : Addr) (k : ClassId) (z : Int32) (vs : List Value) (cs : Int32) (bv : Int32) (u : Value) (h0 : Heap) (n0 : Nat) (v : Option Value) (h : Heap) (L : List Loc) : Prop := v = some (.int (bv &&& (255 : Int32))) ∧ Fr n0 L ∧ h = h0
set_option maxRecDepth 65536 in
set_option maxHeartbeats 40000000 in
theorem rm_sch (l : Launch) (Z : State) (a0 : Array Value) (hw : ∀ d ∈ tables_1, d.before a0 Z = true) (ws : List Jvm.Cond) (a : Addr) (j : Int32) (b : Addr) (k : ClassId) (z : Int32) (vs : List Value) (cs : Int32) (bv : Int32) (u : Value) (h0 : Heap) (n0 : Nat) (Z0 : n0 ≤ h0.size) (E : Exa Z h0 a "java/lang/String") (Fv : Fld Z h0 a "java/lang/String" "value" "[B" (.ref b)) (Fc : Fld Z h0 a "java/lang/String" "coder" "B" (.int (0 : Int32))) (V : Arv Z h0 b k .byte z vs (.int (0 : Int32))) (h1 : ¬ j < 0) (h2 : j < z) (hv : vs.getD j.toNatClampNeg (.int (0 : Int32)) = .int bv) (S0 : Sta Z Z.heap "java/lang/String" "COMPACT_STRINGS" "Z" (.int cs)) (hcs : ¬ cs = (0 : Int32)) (O : Old Z n0 h0) (S1 : Sta Z Z.heap "jdk/internal/util/Preconditions" "SIOOBE_FORMATTER" "Ljava/util/function/BiFunction;" u) (hu : u.isRef = true) :
    MetFree l (⟨"java/lang/String", "charAt", "(I)C"⟩ : MethodName) (head1 (Jvm.Cond.code (⟨"java/lang/String", "charAt", "(I)C"⟩ : MethodName) jdk_42_method_56_code 2 (some .char) :: ws) ({ frames := 3, cells := 0, slots := 0, locals := 40 } : Room)) (fun aa UU => aa = #[(.ref a), (.int j)] ∧ Z.Warmed39 UU.vm ∧ UU.heap = h0) (fun _ _ _ _ _ => True) (fun _ UU oo UU' => ∃ vv LL, oo = .returned vv ∧ Q_sch Z a j b k z vs cs bv u h0 n0 vv UU'.heap LL ∧ FrameEnd UU oo UU' LL ({ frames := 3, cells := 0, slots := 0, locals := 40 } : Room).cells ({ frames := 3, cells := 0, slots := 0, locals := 40 } : Room).slots) := by
  refine MetFree.of_bodySF (plainFor_of_name pn_2) hisR ?_
  intro p e s mt args below meth cd s₁ Bd hml0 hP hK
  obtain ⟨hA, hZ, hh⟩ := hP
  have hx := Bd.exec
  have hby := Bd.bytes
  have hml : cd.maxLocals = 2 := hml0
  have hown : s.vm.findClass "java/lang/String" = some mt.cls := findClass_of_methodNamed Bd.named
  have hnm := (name_of_methodNamed Bd.named Bd.method).1
  have hlk : meth.locks = false := BodyLoose.notSynchronized Bd
  have hrt := Bd.returns
  have X0 : Stand p l e ({ frames := 3, cells := 0, slots := 0, locals := 40 } : Room) s mt args below meth cd s₁ [] 0 0 := Stand.of_body Bd
  have e0 : s₁.heap = h0 := by rw [← hh, Bd.state]; rfl
  have N0 := Fr.nil n0
  show Win p e below (Ends s (Q_sch Z a j b k z vs cs bv u h0 n0) ({ frames := 3, cells := 0, slots := 0, locals := 40 } : Room).cells ({ frames := 3, cells := 0, slots := 0, locals := 40 } : Room).slots) s₁ (entryFrame mt args 2)
  rw [hA, ef_sch]
  refine Win.st ?_ (fun tq kq => XS.aloadN X0.here hx rfl (hb hby d_jdk_42_method_56_0) rfl rfl kq)
  show Win p e below _ s₁ (mkF mt 1 #[.val (.ref a), .val (.int j)] [(.ref a)])
  obtain ⟨cq55, kq55, q55a, q55b, q55c⟩ := isOf hZ e0 E
  obtain ⟨v55, _, ⟨T55, L55, k55, n55⟩, -, X55, ⟨Lc55, hQ55, l55, y55, z55⟩, st55⟩ := X0.virtualBack hx (y := (⟨"java/lang/String", "isLatin1", "()Z"⟩ : MethodName)) (z := (⟨"java/lang/String", "isLatin1", "()Z"⟩ : MethodName)) hown (mvT hZ (hw _ (List.mem_of_getElem? (i := 55) rfl))) (mvT hZ (hw _ (List.mem_of_getElem? (i := 56) rfl))) (notFace_of_selects (args := #[]) (mvT hZ (hw _ (List.mem_of_getElem? (i := 58) rfl)))) (mvT hZ (hw _ (List.mem_of_getElem? (i := 58) rfl))) (mvT hZ (hw _ (List.mem_of_getElem? (i := 57) rfl))) (by decide) (backOf (W := 0) (rm_islatin1 l Z a0 hw [] a cs h0 n0 Z0 Fc S0 hcs O) hZ (hw _ (List.mem_of_getElem? (i := 59) rfl)) (hw _ (List.mem_of_getElem? (i := 11) rfl)) (by decide) (by decide)) q55a q55c (g := (mkF mt 1 #[.val (.ref a), .val (.int j)] [(.ref a)])) rfl (by rw [hml]; rfl) (Steps.refl _) (argsL := []) (rest := []) (lenOf pd_6 rfl) rfl (by show 2 * 0 + _ ≤ _; exact Nat.le_of_eq rfl) (hb hby d_jdk_42_method_56_1) (fun _ _ => ⟨rfl, e0, (by decide : 0 + 0 ≤ _), (by decide : 0 + 0 ≤ _)⟩)
  dsimp only [Pt.U, Pt.locs, Pt.cells, Pt.slots] at X55 l55 y55 z55 st55 hQ55
  subst y55 z55
  replace X55 : Stand p l e _ s mt args below meth cd T55 L55 0 0 := X55
  obtain ⟨h55, e55⟩ : ∃ z, T55.heap = z := ⟨_, rfl⟩
  rw [e55] at hQ55
  obtain ⟨rfl, Nq55, eh55⟩ := hQ55
  have N55 : Fr n0 L55 := by rw [l55]; exact Fr.app N0 Nq55
  rw [eh55] at e55
  refine Win.tr ?_ st55
  show Win p e below _ T55 (mkF mt 4 #[.val (.ref a), .val (.int j)] [(.int (1 : Int32))])
  refine Win.st ?_ (fun tq kq => XS.ifNo X55.here hx rfl (hb hby d_jdk_42_method_56_4) rfl ((if0 _ _).trans (feq (by decide : ¬ ((1 : Int32) = (0 : Int32)))).1) kq)
  show Win p e below _ T55 (mkF mt 7 #[.val (.ref a), .val (.int j)] [])
  refine Win.st ?_ (fun tq kq => XS.aloadN X55.here hx rfl (hb hby d_jdk_42_method_56_7) rfl rfl kq)
  show Win p e below _ T55 (mkF mt 8 #[.val (.ref a), .val (.int j)] [(.ref a)])
  obtain ⟨T56, X56, e56, st56⟩ := getF X55 hx hZ hown (host := "") (Or.inl (hw _ (List.mem_of_getElem? (i := 30) rfl))) Via.refl e55 Fv (g := (mkF mt 8 #[.val (.ref a), .val (.int j)] [(.ref a)])) rfl rfl (hb hby d_jdk_42_method_56_8)
  refine Win.st ?_ st56
  show Win p e below _ T56 (mkF mt 11 #[.val (.ref a), .val (.int j)] [(.ref b)])
  refine Win.st ?_ (fun tq kq => XS.iloadN X56.here hx rfl (hb hby d_jdk_42_method_56_11) rfl kq)
  show Win p e below _ T56 (mkF mt 12 #[.val (.ref a), .val (.int j)] [(.int j), (.ref b)])
  obtain ⟨v57, _, ⟨T57, L57, k57, n57⟩, -, X57, ⟨Lc57, hQ57, l57, y57, z57⟩, st57⟩ := Jvm.LawKit.callS X56 hx (y := (⟨"java/lang/StringLatin1", "charAt", "([BI)C"⟩ : MethodName)) hown (mvT hZ (hw _ (List.mem_of_getElem? (i := 60) rfl))) (mvT hZ (hw _ (List.mem_of_getElem? (i := 61) rfl))) (mvT hZ (hw _ (List.mem_of_getElem? (i := 16) rfl))) (mvT hZ (hw _ (List.mem_of_getElem? (i := 62) rfl))) (by decide) (backOf (W := 0) (rm_l1ch l Z a0 hw [] b j k z vs bv u h0 n0 Z0 V h1 h2 hv S1 hu O) hZ (hw _ (List.mem_of_getElem? (i := 62) rfl)) (hw _ (List.mem_of_getElem? (i := 16) rfl)) (by decide) (by decide)) (g := (mkF mt 12 #[.val (.ref a), .val (.int j)] [(.int j), (.ref b)])) rfl (by rw [hml]; rfl) (argsL := [(.ref b), (.int j)]) (rest := []) (lenOf pd_7 rfl) rfl (by show 2 * 0 + _ ≤ _; exact Nat.le_of_eq rfl) (hb hby d_jdk_42_method_56_12) (fun _ _ => ⟨rfl, e56, (by decide : 0 + 0 ≤ _), (by decide : 0 + 0 ≤ _)⟩)
  dsimp only [Pt.U, Pt.locs, Pt.cells, Pt.slots] at X57 l57 y57 z57 st57 hQ57
  subst y57 z57
  replace X57 : Stand p l e _ s mt args below meth cd T57 L57 0 0 := X57
  obtain ⟨h57, e57⟩ : ∃ z, T57.heap = z := ⟨_, rfl⟩
  rw [e57] at hQ57
  obtain ⟨rfl, Nq57, eh57⟩ := hQ57
  have N57 : Fr n0 L57 := by rw [l57]; exact Fr.app N55 Nq57
  rw [eh57] at e57
  refine Win.st ?_ st57
  show Win p e below _ T57 (mkF mt 15 #[.val (.ref a), .val (.int j)] [(.int (bv &&& (255 : Int32)))])
  exact Win.retN X57 hx hlk e57 (t := .char) (z' := (bv &&& (255 : Int32))) hrt (by simp) (hb hby d_jdk_42_method_56_15) (by decide) (by decide) (own_narc1 bv) ⟨rfl, N57, rfl⟩
theorem d_prog_18_method_6_0 : decode prog_18_method_6_code 0 = .ok (.iload_n 0, 1) := by decide +kernel
theorem d_prog_18_method_6_1 : decode prog_18_method_6_code 1 = .ok (.sipush 256, 3) := by decide +kernel
theorem d_prog_18_method_6_4 : decode prog_18_method_6_code 4 = .ok (.if_icmp .lt 17, 3) := by decide +kernel
theorem d_prog_18_method_6_21 : decode prog_18_method_6_code 21 = .ok (.iload_n 0, 1) := by decide +kernel
theorem d_prog_18_method_6_22 : decode prog_18_method_6_code 22 = .ok (.ireturn, 1) := by decide +kernel
theorem pn_4 : plainName "com/example/modest_tableau/modesttableau/document/BracketDepth" = true := by first | (simp [plainName, overriddenIn]; done) | decide +kernel
theorem ef_latin1 (mt : MethodId) (x : Int32) : entryFrame mt #[(.int x)] 1 = mkF mt 0 #[.val (.int x)] [] := by first | (simp [entryFrame, mkF, argsToLocals, Value.category]; done) | rfl
def Q_latin1 (Z : State) (x : Int32) (h0 : Heap) (n0 : Nat) (v : Option Value) (h : Heap) (L : List Loc) : Prop := v = some (.int x) ∧ Fr n0 L ∧ h = h0
set_option maxRecDepth 65536 in
set_option maxHeartbeats 40000000 in
theorem rm_latin1 (l : Launch) (Z : State) (a0 : Array Value) (hw : ∀ d ∈ tables_1, d.before a0 Z = true) (ws : List Jvm.Cond) (x : Int32) (h0 : Heap) (n0 : Nat) (Z0 : n0 ≤ h0.size) (hx2 : x < (256 : Int32)) :
    MetFree l (⟨"com/example/modest_tableau/modesttableau/document/BracketDepth", "latin1", "(C)I"⟩ : MethodName) (head1 (Jvm.Cond.code (⟨"com/example/modest_tableau/modesttableau/document/BracketDepth", "latin1", "(C)I"⟩ : MethodName) prog_18_method_6_code 1 (some .int) :: ws) ({ frames := 0, cells := 0, slots := 0, locals := 0 } : Room)) (fun aa UU => aa = #[(.int x)] ∧ Z.Warmed39 UU.vm ∧ UU.heap = h0) (fun _ _ _ _ _ => True) (fun _ UU oo UU' => ∃ vv LL, oo = .returned vv ∧ Q_latin1 Z x h0 n0 vv UU'.heap LL ∧ FrameEnd UU oo UU' LL ({ frames := 0, cells := 0, slots := 0, locals := 0 } : Room).cells ({ frames := 0, cells := 0, slots := 0, locals := 0 } : Room).slots) := by
  refine MetFree.of_bodySF (plainFor_of_name pn_4) hisR ?_
  intro p e s mt args below meth cd s₁ Bd hml0 hP hK
  obtain ⟨hA, hZ, hh⟩ := hP
  have hx := Bd.exec
  have hby := Bd.bytes
  have hml : cd.maxLocals = 1 := hml0
  have hown : s.vm.findClass "com/example/modest_tableau/modesttableau/document/BracketDepth" = some mt.cls := findClass_of_methodNamed Bd.named
  have hnm := (name_of_methodNamed Bd.named Bd.method).1
  have hlk : meth.locks = false := BodyLoose.notSynchronized Bd
  have hrt := Bd.returns
  have X0 : Stand p l e ({ frames := 0, cells := 0, slots := 0, locals := 0 } : Room) s mt args below meth cd s₁ [] 0 0 := Stand.of_body Bd
  have e0 : s₁.heap = h0 := by rw [← hh, Bd.state]; rfl
  have N0 := Fr.nil n0
  show Win p e below (Ends s (Q_latin1 Z x h0 n0) ({ frames := 0, cells := 0, slots := 0, locals := 0 } : Room).cells ({ frames := 0, cells := 0, slots := 0, locals := 0 } : Room).slots) s₁ (entryFrame mt args 1)
  rw [hA, ef_latin1]
  refine Win.st ?_ (fun tq kq => XS.iloadN X0.here hx rfl (hb hby d_prog_18_method_6_0) rfl kq)
  show Win p e below _ s₁ (mkF mt 1 #[.val (.int x)] [(.int x)])
  refine Win.st ?_ (fun tq kq => XS.sipush X0.here hx rfl (hb hby d_prog_18_method_6_1) kq)
  show Win p e below _ s₁ (mkF mt 4 #[.val (.int x)] [(.int (256 : Int32)), (.int x)])
  refine Win.st ?_ (fun tq kq => XS.icmpYes X0.here hx rfl (pc0 := 4) (pc' := 21) rfl (hb hby d_prog_18_method_6_4) rfl (tlt hx2).1 (by decide) (by decide) kq)
  show Win p e below _ s₁ (mkF mt 21 #[.val (.int x)] [])
  refine Win.st ?_ (fun tq kq => XS.iloadN X0.here hx rfl (hb hby d_prog_18_method_6_21) rfl kq)
  show Win p e below _ s₁ (mkF mt 22 #[.val (.int x)] [(.int x)])
  exact Win.ret X0 hx hlk e0 hrt rfl (Or.inl ⟨rfl, Or.inl rfl, _, rfl⟩) (hb hby d_prog_18_method_6_22) (by decide) (by decide) ⟨rfl, N0, rfl⟩
theorem d_prog_18_method_1_0 : decode prog_18_method_1_code 0 = .ok (.aload_n 0, 1) := by decide +kernel
theorem d_prog_18_method_1_1 : decode prog_18_method_1_code 1 = .ok (.invokespecial 1, 3) := by decide +kernel
theorem d_prog_18_method_1_4 : decode prog_18_method_1_code 4 = .ok (.aload_n 0, 1) := by decide +kernel
theorem d_prog_18_method_1_5 : decode prog_18_method_1_code 5 = .ok (.sipush 256, 3) := by decide +kernel
theorem d_prog_18_method_1_8 : decode prog_18_method_1_code 8 = .ok (.newarray .byte, 2) := by decide +kernel
theorem d_prog_18_method_1_10 : decode prog_18_method_1_code 10 = .ok (.putfield 7, 3) := by decide +kernel
theorem d_prog_18_method_1_13 : decode prog_18_method_1_code 13 = .ok (.iconst 0, 1) := by decide +kernel
theorem d_prog_18_method_1_14 : decode prog_18_method_1_code 14 = .ok (.istore_n 3, 1) := by decide +kernel
theorem d_prog_18_method_1_15 : decode prog_18_method_1_code 15 = .ok (.iload_n 3, 1) := by decide +kernel
theorem d_prog_18_method_1_16 : decode prog_18_method_1_code 16 = .ok (.aload_n 1, 1) := by decide +kernel
theorem d_prog_18_method_1_17 : decode prog_18_method_1_code 17 = .ok (.invokevirtual 13, 3) := by decide +kernel
theorem pd_8 : parseMethodDescriptor "()I" = some ⟨[], some .int⟩ := by decide +kernel
theorem d_prog_18_method_1_20 : decode prog_18_method_1_code 20 = .ok (.if_icmp .ge 23, 3) := by decide +kernel
theorem d_prog_18_method_1_23 : decode prog_18_method_1_code 23 = .ok (.aload_n 0, 1) := by decide +kernel
theorem d_prog_18_method_1_24 : decode prog_18_method_1_code 24 = .ok (.getfield 7, 3) := by decide +kernel
theorem d_prog_18_method_1_27 : decode prog_18_method_1_code 27 = .ok (.aload_n 1, 1) := by decide +kernel
theorem d_prog_18_method_1_28 : decode prog_18_method_1_code 28 = .ok (.iload_n 3, 1) := by decide +kernel
theorem d_prog_18_method_1_29 : decode prog_18_method_1_code 29 = .ok (.invokevirtual 19, 3) := by decide +kernel
theorem pd_9 : parseMethodDescriptor "(I)C" = some ⟨[.int], some .char⟩ := by decide +kernel
theorem d_prog_18_method_1_32 : decode prog_18_method_1_code 32 = .ok (.invokestatic 23, 3) := by decide +kernel
theorem pd_10 : parseMethodDescriptor "(C)I" = some ⟨[.char], some .int⟩ := by decide +kernel
theorem d_prog_18_method_1_35 : decode prog_18_method_1_code 35 = .ok (.iconst 1, 1) := by decide +kernel
theorem d_prog_18_method_1_36 : decode prog_18_method_1_code 36 = .ok (.bastore, 1) := by decide +kernel
theorem d_prog_18_method_1_37 : decode prog_18_method_1_code 37 = .ok (.iinc 3 1, 3) := by decide +kernel
theorem d_prog_18_method_1_40 : decode prog_18_method_1_code 40 = .ok (.goto (-25), 3) := by decide +kernel
theorem d_prog_18_method_1_43 : decode prog_18_method_1_code 43 = .ok (.iconst 0, 1) := by decide +kernel
theorem d_prog_18_method_1_44 : decode prog_18_method_1_code 44 = .ok (.istore_n 3, 1) := by decide +kernel
theorem d_prog_18_method_1_45 : decode prog_18_method_1_code 45 = .ok (.iload_n 3, 1) := by decide +kernel
theorem d_prog_18_method_1_46 : decode prog_18_method_1_code 46 = .ok (.aload_n 2, 1) := by decide +kernel
theorem d_prog_18_method_1_47 : decode prog_18_method_1_code 47 = .ok (.invokevirtual 13, 3) := by decide +kernel
theorem d_prog_18_method_1_50 : decode prog_18_method_1_code 50 = .ok (.if_icmp .ge 23, 3) := by decide +kernel
theorem d_prog_18_method_1_53 : decode prog_18_method_1_code 53 = .ok (.aload_n 0, 1) := by decide +kernel
theorem d_prog_18_method_1_54 : decode prog_18_method_1_code 54 = .ok (.getfield 7, 3) := by decide +kernel
theorem d_prog_18_method_1_57 : decode prog_18_method_1_code 57 = .ok (.aload_n 2, 1) := by decide +kernel
theorem d_prog_18_method_1_58 : decode prog_18_method_1_code 58 = .ok (.iload_n 3, 1) := by decide +kernel
theorem d_prog_18_method_1_59 : decode prog_18_method_1_code 59 = .ok (.invokevirtual 19, 3) := by decide +kernel
theorem d_prog_18_method_1_62 : decode prog_18_method_1_code 62 = .ok (.invokestatic 23, 3) := by decide +kernel
theorem d_prog_18_method_1_65 : decode prog_18_method_1_code 65 = .ok (.iconst (-1), 1) := by decide +kernel
theorem d_prog_18_method_1_66 : decode prog_18_method_1_code 66 = .ok (.bastore, 1) := by decide +kernel
theorem d_prog_18_method_1_67 : decode prog_18_method_1_code 67 = .ok (.iinc 3 1, 3) := by decide +kernel
theorem d_prog_18_method_1_70 : decode prog_18_method_1_code 70 = .ok (.goto (-25), 3) := by decide +kernel
theorem d_prog_18_method_1_73 : decode prog_18_method_1_code 73 = .ok (.return_, 1) := by decide +kernel
theorem ef_bdinit (mt : MethodId) (a : Addr) (s1 : Addr) (s2 : Addr) : entryFrame mt #[(.ref a), (.ref s1), (.ref s2)] 4 = mkF mt 0 #[.val (.ref a), .val (.ref s1), .val (.ref s2), .unset] [] := by first | (simp [entryFrame, mkF, argsToLocals, Value.category]; done) | rfl
def Q_bdinit (Z : State) (a : Addr) (s1 : Addr) (s2 : Addr) (cs : Int32) (u : Value) (t0 : Addr) (kt0 : ClassId) (o : Int32) (t1 : Addr) (kt1 : ClassId) (c : Int32) (h0 : Heap) (n0 : Nat) (v : Option Value) (h : Heap) (L : List Loc) : Prop := v = none ∧ Fr n0 L ∧ Keep h0 h [a] ∧ Fld Z h a "com/example/modest_tableau/modesttableau/document/BracketDepth" "depth" "I" (.int (0 : Int32)) ∧ Fld Z h a "com/example/modest_tableau/modesttableau/document/BracketDepth" "deepest" "I" (.int (0 : Int32)) ∧ ∃ (t : Addr) (kt : ClassId), n0 ≤ t ∧ a ≠ t ∧ h0.size ≤ t ∧ Fld Z h a "com/example/modest_tableau/modesttableau/document/BracketDepth" "steps" "[B" (.ref t) ∧ Arv Z h t kt .byte (256 : Int32) (own_tab o c) (.int (0 : Int32))
set_option maxRecDepth 65536 in
set_option maxHeartbeats 40000000 in
theorem rm_bdinit (l : Launch) (Z : State) (a0 : Array Value) (hw : ∀ d ∈ tables_1, d.before a0 Z = true) (ws : List Jvm.Cond) (a : Addr) (s1 : Addr) (s2 : Addr) (cs : Int32) (u : Value) (t0 : Addr) (kt0 : ClassId) (o : Int32) (t1 : Addr) (kt1 : ClassId) (c : Int32) (h0 : Heap) (n0 : Nat) (Z0 : n0 ≤ h0.size) (E : Exa Z h0 a "com/example/modest_tableau/modesttableau/document/BracketDepth") (F_steps : Fld Z h0 a "com/example/modest_tableau/modesttableau/document/BracketDepth" "steps" "[B" .null) (F_depth : Fld Z h0 a "com/example/modest_tableau/modesttableau/document/BracketDepth" "depth" "I" (.int (0 : Int32))) (F_deepest : Fld Z h0 a "com/example/modest_tableau/modesttableau/document/BracketDepth" "deepest" "I" (.int (0 : Int32))) (ga : n0 ≤ a) (S0 : Sta Z Z.heap "java/lang/String" "COMPACT_STRINGS" "Z" (.int cs)) (hcs : ¬ cs = (0 : Int32)) (O : Old Z n0 h0) (S1 : Sta Z Z.heap "jdk/internal/util/Preconditions" "SIOOBE_FORMATTER" "Ljava/util/function/BiFunction;" u) (hu : u.isRef = true) (hB0 : own_B o) (ES0 : Exa Z h0 s1 "java/lang/String") (FV0 : Fld Z h0 s1 "java/lang/String" "value" "[B" (.ref t0)) (FC0 : Fld Z h0 s1 "java/lang/String" "coder" "B" (.int (0 : Int32))) (VT0 : Arv Z h0 t0 kt0 .byte (1 : Int32) [(.int (o.toInt8.toInt32))] (.int (0 : Int32))) (n_s0 : s1 ≠ a) (n_t0 : t0 ≠ a) (hB1 : own_B c) (ES1 : Exa Z h0 s2 "java/lang/String") (FV1 : Fld Z h0 s2 "java/lang/String" "value" "[B" (.ref t1)) (FC1 : Fld Z h0 s2 "java/lang/String" "coder" "B" (.int (0 : Int32))) (VT1 : Arv Z h0 t1 kt1 .byte (1 : Int32) [(.int (c.toInt8.toInt32))] (.int (0 : Int32))) (n_s1 : s2 ≠ a) (n_t1 : t1 ≠ a) :
    MetFree l (⟨"com/example/modest_tableau/modesttableau/document/BracketDepth", "<init>", "(Ljava/lang/String;Ljava/lang/String;)V"⟩ : MethodName) (head1 (Jvm.Cond.code (⟨"com/example/modest_tableau/modesttableau/document/BracketDepth", "<init>", "(Ljava/lang/String;Ljava/lang/String;)V"⟩ : MethodName) prog_18_method_1_code 4 none :: ws) ({ frames := 4, cells := 1, slots := 256, locals := 54 } : Room)) (fun aa UU => aa = #[(.ref a), (.ref s1), (.ref s2)] ∧ Z.Warmed39 UU.vm ∧ UU.heap = h0) (fun _ _ _ _ _ => True) (fun _ UU oo UU' => ∃ vv LL, oo = .returned vv ∧ Q_bdinit Z a s1 s2 cs u t0 kt0 o t1 kt1 c h0 n0 vv UU'.heap LL ∧ FrameEnd UU oo UU' LL ({ frames := 4, cells := 1, slots := 256, locals := 54 } : Room).cells ({ frames := 4, cells := 1, slots := 256, locals := 54 } : Room).slots) := by
  refine MetFree.of_bodySF (plainFor_of_name pn_4) hisR ?_
  intro p e s mt args below meth cd s₁ Bd hml0 hP hK
  obtain ⟨hA, hZ, hh⟩ := hP
  have hx := Bd.exec
  have hby := Bd.bytes
  have hml : cd.maxLocals = 4 := hml0
  have hown : s.vm.findClass "com/example/modest_tableau/modesttableau/document/BracketDepth" = some mt.cls := findClass_of_methodNamed Bd.named
  have hnm := (name_of_methodNamed Bd.named Bd.method).1
  have hlk : meth.locks = false := BodyLoose.notSynchronized Bd
  have hrt := Bd.returns
  have X0 : Stand p l e ({ frames := 4, cells := 1, slots := 256, locals := 54 } : Room) s mt args below meth cd s₁ [] 0 0 := Stand.of_body Bd
  have e0 : s₁.heap = h0 := by rw [← hh, Bd.state]; rfl
  have N0 := Fr.nil n0
  show Win p e below (Ends s (Q_bdinit Z a s1 s2 cs u t0 kt0 o t1 kt1 c h0 n0) ({ frames := 4, cells := 1, slots := 256, locals := 54 } : Room).cells ({ frames := 4, cells := 1, slots := 256, locals := 54 } : Room).slots) s₁ (entryFrame mt args 4)
  rw [hA, ef_bdinit]
  refine Win.st ?_ (fun tq kq => XS.aloadN X0.here hx rfl (hb hby d_prog_18_method_1_0) rfl rfl kq)
  show Win p e below _ s₁ (mkF mt 1 #[.val (.ref a), .val (.ref s1), .val (.ref s2), .unset] [(.ref a)])
  obtain ⟨T58, X58, e58, st58⟩ := initO X0 hx hZ hown (hw _ (List.mem_of_getElem? (i := 37) rfl)) (hw _ (List.mem_of_getElem? (i := 28) rfl)) (hw _ (List.mem_of_getElem? (i := 29) rfl)) e0 (g := (mkF mt 1 #[.val (.ref a), .val (.ref s1), .val (.ref s2), .unset] [(.ref a)])) rfl (by rw [hml]; rfl) rfl (hb hby d_prog_18_method_1_1) (by decide) (W := 0) (by show 2 * 0 + _ ≤ _; exact Nat.le_of_eq rfl) (by decide)
  refine Win.st ?_ st58
  show Win p e below _ T58 (mkF mt 4 #[.val (.ref a), .val (.ref s1), .val (.ref s2), .unset] [])
  refine Win.st ?_ (fun tq kq => XS.aloadN X58.here hx rfl (hb hby d_prog_18_method_1_4) rfl rfl kq)
  show Win p e below _ T58 (mkF mt 5 #[.val (.ref a), .val (.ref s1), .val (.ref s2), .unset] [(.ref a)])
  refine Win.st ?_ (fun tq kq => XS.sipush X58.here hx rfl (hb hby d_prog_18_method_1_5) kq)
  show Win p e below _ T58 (mkF mt 8 #[.val (.ref a), .val (.ref s1), .val (.ref s2), .unset] [(.int (256 : Int32)), (.ref a)])
  obtain ⟨T59, h59, k59, X59, e59, E59, A59, st59⟩ := newP X58 hx hZ (hw _ (List.mem_of_getElem? (i := 5) rfl)) e58 (g := (mkF mt 8 #[.val (.ref a), .val (.ref s1), .val (.ref s2), .unset] [(.int (256 : Int32)), (.ref a)])) rfl (hb hby d_prog_18_method_1_8) rfl (by decide) (cap := 256) (by decide) (by decide) (by decide) (by decide)
  obtain ⟨b59, gq59⟩ : ∃ z, z = h0.size := ⟨_, rfl⟩
  rw [← gq59] at A59 st59
  have ne60 : a ≠ b59 := own_new gq59 E.lt
  have ne61 : s1 ≠ b59 := own_new gq59 ES0.lt
  have ne62 : t0 ≠ b59 := own_new gq59 VT0.lt
  have ne63 : s2 ≠ b59 := own_new gq59 ES1.lt
  have ne64 : t1 ≠ b59 := own_new gq59 VT1.lt
  have g65 : n0 ≤ b59 := own_newle Z0 gq59
  have z66 : h0.size ≤ b59 := own_newle (Keep.refl h0 [a]).1 gq59
  have ke59 := own_kext E59
  replace X59 : Stand p l e _ s mt args below meth cd T59 _ 1 256 := X59
  have f67_21 := O.keep ke59 all0
  have f67_22 := E.keep ke59
  have f67_23 := F_steps.keep ke59 nin0
  have f67_24 := F_depth.keep ke59 nin0
  have f67_25 := F_deepest.keep ke59 nin0
  have f67_26 := ES0.keep ke59
  have f67_27 := FV0.keep ke59 nin0
  have f67_28 := FC0.keep ke59 nin0
  have f67_29 := VT0.keep ke59 nin0
  have f67_30 := ES1.keep ke59
  have f67_31 := FV1.keep ke59 nin0
  have f67_32 := FC1.keep ke59 nin0
  have f67_33 := VT1.keep ke59 nin0
  have Z68 : n0 ≤ h59.size := Nat.le_trans Z0 ke59.1
  have K69 : Keep h0 h59 [a] := Keep.trans (Keep.refl h0 [a]) ke59 all0
  have V59 : Arv Z h59 b59 k59 .byte (256 : Int32) (List.replicate 256 (.int (0 : Int32))) (.int (0 : Int32)) := (Arv.new A59 (by decide)).pad (pad_rep [] (.int (0 : Int32)) 256)
  refine Win.st ?_ st59
  show Win p e below _ T59 (mkF mt 10 #[.val (.ref a), .val (.ref s1), .val (.ref s2), .unset] [(.ref b59), (.ref a)])
  obtain ⟨T70, h70, X70, e70, W70, st70⟩ := putF X59 hx hZ hown (host := "") (Or.inl (hw _ (List.mem_of_getElem? (i := 38) rfl))) Via.refl e59 f67_23 f67_22 (Or.inr ⟨(hw _ (List.mem_of_getElem? (i := 39) rfl)), rfl, hnm⟩) (hw _ (List.mem_of_getElem? (i := 7) rfl)) (ty := (.array .byte)) (by decide) rfl rfl (g := (mkF mt 10 #[.val (.ref a), .val (.ref s1), .val (.ref s2), .unset] [(.ref b59), (.ref a)])) rfl rfl (hb hby d_prog_18_method_1_10)
  obtain ⟨L70, X70, N70⟩ := own_hide X70 N0 ga
  have kp70 := Keep.of_wr W70
  have fw70 := f67_23.same W70
  have f70_43 := f67_24.other W70 (Or.inr (slot_ne (Or.inl (hw _ (List.mem_of_getElem? (i := 84) rfl))) (Or.inr (hw _ (List.mem_of_getElem? (i := 39) rfl))) (by decide) (t := .int) (t' := (.array .byte)) (by decide) (by decide)))
  have f70_44 := f67_25.other W70 (Or.inr (slot_ne (Or.inl (hw _ (List.mem_of_getElem? (i := 86) rfl))) (Or.inr (hw _ (List.mem_of_getElem? (i := 39) rfl))) (by decide) (t := .int) (t' := (.array .byte)) (by decide) (by decide)))
  have f71_45 := f67_21.keep kp70 (allS ga all0)
  have f71_46 := f67_22.keep kp70
  have f71_47 := f67_26.keep kp70
  have f71_48 := f67_27.keep kp70 (ninS n_s0 nin0)
  have f71_49 := f67_28.keep kp70 (ninS n_s0 nin0)
  have f71_50 := f67_29.keep kp70 (ninS n_t0 nin0)
  have f71_51 := f67_30.keep kp70
  have f71_52 := f67_31.keep kp70 (ninS n_s1 nin0)
  have f71_53 := f67_32.keep kp70 (ninS n_s1 nin0)
  have f71_54 := f67_33.keep kp70 (ninS n_t1 nin0)
  have f71_55 := V59.keep kp70 (ninS (Ne.symm ne60) nin0)
  have Z72 : n0 ≤ h70.size := Nat.le_trans Z68 kp70.1
  have K73 : Keep h0 h70 [a] := Keep.trans K69 kp70 (allS (Or.inl (List.mem_of_getElem? (i := 0) rfl)) all0)
  refine Win.st ?_ st70
  show Win p e below _ T70 (mkF mt 13 #[.val (.ref a), .val (.ref s1), .val (.ref s2), .unset] [])
  refine Win.st ?_ (fun tq kq => XS.iconst X70.here hx rfl (hb hby d_prog_18_method_1_13) kq)
  show Win p e below _ T70 (mkF mt 14 #[.val (.ref a), .val (.ref s1), .val (.ref s2), .unset] [(.int (0 : Int32))])
  refine Win.st ?_ (fun tq kq => XS.istoreN X70.here hx rfl (hb hby d_prog_18_method_1_14) rfl (l' := #[.val (.ref a), .val (.ref s1), .val (.ref s2), .val (.int (0 : Int32))]) rfl kq)
  show Win p e below _ T70 (mkF mt 15 #[.val (.ref a), .val (.ref s1), .val (.ref s2), .val (.int (0 : Int32))] [])
  refine Win.st ?_ (fun tq kq => XS.iloadN X70.here hx rfl (hb hby d_prog_18_method_1_15) rfl kq)
  show Win p e below _ T70 (mkF mt 16 #[.val (.ref a), .val (.ref s1), .val (.ref s2), .val (.int (0 : Int32))] [(.int (0 : Int32))])
  refine Win.st ?_ (fun tq kq => XS.aloadN X70.here hx rfl (hb hby d_prog_18_method_1_16) rfl rfl kq)
  show Win p e below _ T70 (mkF mt 17 #[.val (.ref a), .val (.ref s1), .val (.ref s2), .val (.int (0 : Int32))] [(.ref s1), (.int (0 : Int32))])
  obtain ⟨cq74, kq74, q74a, q74b, q74c⟩ := isOf hZ e70 f71_47
  obtain ⟨v74, _, ⟨T74, L74, k74, n74⟩, -, X74, ⟨Lc74, hQ74, l74, y74, z74⟩, st74⟩ := X70.virtualBack hx (y := (⟨"java/lang/String", "length", "()I"⟩ : MethodName)) (z := (⟨"java/lang/String", "length", "()I"⟩ : MethodName)) hown (mvT hZ (hw _ (List.mem_of_getElem? (i := 40) rfl))) (mvT hZ (hw _ (List.mem_of_getElem? (i := 41) rfl))) (notFace_of_selects (args := #[]) (mvT hZ (hw _ (List.mem_of_getElem? (i := 43) rfl)))) (mvT hZ (hw _ (List.mem_of_getElem? (i := 43) rfl))) (mvT hZ (hw _ (List.mem_of_getElem? (i := 42) rfl))) (by decide) (backOf (W := 1) (rm_slen l Z a0 hw [] s1 t0 kt0 (1 : Int32) [(.int (o.toInt8.toInt32))] cs h70 n0 Z72 f71_47 f71_48 f71_49 f71_50 S0 hcs f71_45) hZ (hw _ (List.mem_of_getElem? (i := 44) rfl)) (hw _ (List.mem_of_getElem? (i := 11) rfl)) (by decide) (by decide)) q74a q74c (g := (mkF mt 17 #[.val (.ref a), .val (.ref s1), .val (.ref s2), .val (.int (0 : Int32))] [(.ref s1), (.int (0 : Int32))])) rfl (by rw [hml]; rfl) (Steps.refl _) (argsL := []) (rest := [(.int (0 : Int32))]) (lenOf pd_8 rfl) rfl (by show 2 * 0 + _ ≤ _; exact Nat.le_of_eq rfl) (hb hby d_prog_18_method_1_17) (fun _ _ => ⟨rfl, e70, (by decide : 1 + 0 ≤ _), (by decide : 256 + 0 ≤ _)⟩)
  dsimp only [Pt.U, Pt.locs, Pt.cells, Pt.slots] at X74 l74 y74 z74 st74 hQ74
  subst y74 z74
  replace X74 : Stand p l e _ s mt args below meth cd T74 L74 1 256 := X74
  obtain ⟨h74, e74⟩ : ∃ z, T74.heap = z := ⟨_, rfl⟩
  rw [e74] at hQ74
  obtain ⟨rfl, Nq74, eh74⟩ := hQ74
  have N74 : Fr n0 L74 := by rw [l74]; exact Fr.app N70 Nq74
  rw [eh74] at e74
  refine Win.tr ?_ st74
  show Win p e below _ T74 (mkF mt 20 #[.val (.ref a), .val (.ref s1), .val (.ref s2), .val (.int (0 : Int32))] [(.int (1 : Int32)), (.int (0 : Int32))])
  refine Win.st ?_ (fun tq kq => XS.icmpNo X74.here hx rfl (hb hby d_prog_18_method_1_20) rfl (tlt (by decide : (0 : Int32) < (1 : Int32))).2.1 kq)
  show Win p e below _ T74 (mkF mt 23 #[.val (.ref a), .val (.ref s1), .val (.ref s2), .val (.int (0 : Int32))] [])
  refine Win.st ?_ (fun tq kq => XS.aloadN X74.here hx rfl (hb hby d_prog_18_method_1_23) rfl rfl kq)
  show Win p e below _ T74 (mkF mt 24 #[.val (.ref a), .val (.ref s1), .val (.ref s2), .val (.int (0 : Int32))] [(.ref a)])
  obtain ⟨T75, X75, e75, st75⟩ := getF X74 hx hZ hown (host := "") (Or.inl (hw _ (List.mem_of_getElem? (i := 38) rfl))) Via.refl e74 fw70 (g := (mkF mt 24 #[.val (.ref a), .val (.ref s1), .val (.ref s2), .val (.int (0 : Int32))] [(.ref a)])) rfl rfl (hb hby d_prog_18_method_1_24)
  refine Win.st ?_ st75
  show Win p e below _ T75 (mkF mt 27 #[.val (.ref a), .val (.ref s1), .val (.ref s2), .val (.int (0 : Int32))] [(.ref b59)])
  refine Win.st ?_ (fun tq kq => XS.aloadN X75.here hx rfl (hb hby d_prog_18_method_1_27) rfl rfl kq)
  show Win p e below _ T75 (mkF mt 28 #[.val (.ref a), .val (.ref s1), .val (.ref s2), .val (.int (0 : Int32))] [(.ref s1), (.ref b59)])
  refine Win.st ?_ (fun tq kq => XS.iloadN X75.here hx rfl (hb hby d_prog_18_method_1_28) rfl kq)
  show Win p e below _ T75 (mkF mt 29 #[.val (.ref a), .val (.ref s1), .val (.ref s2), .val (.int (0 : Int32))] [(.int (0 : Int32)), (.ref s1), (.ref b59)])
  obtain ⟨cq76, kq76, q76a, q76b, q76c⟩ := isOf hZ e75 f71_47
  obtain ⟨v76, _, ⟨T76, L76, k76, n76⟩, -, X76, ⟨Lc76, hQ76, l76, y76, z76⟩, st76⟩ := X75.virtualBack hx (y := (⟨"java/lang/String", "charAt", "(I)C"⟩ : MethodName)) (z := (⟨"java/lang/String", "charAt", "(I)C"⟩ : MethodName)) hown (mvT hZ (hw _ (List.mem_of_getElem? (i := 50) rfl))) (mvT hZ (hw _ (List.mem_of_getElem? (i := 51) rfl))) (notFace_of_selects (args := #[]) (mvT hZ (hw _ (List.mem_of_getElem? (i := 53) rfl)))) (mvT hZ (hw _ (List.mem_of_getElem? (i := 53) rfl))) (mvT hZ (hw _ (List.mem_of_getElem? (i := 52) rfl))) (by decide) (backOf (W := 1) (rm_sch l Z a0 hw [] s1 (0 : Int32) t0 kt0 (1 : Int32) [(.int (o.toInt8.toInt32))] cs (o.toInt8.toInt32) u h70 n0 Z72 f71_47 f71_48 f71_49 f71_50 (by decide) (by decide) rfl S0 hcs f71_45 S1 hu) hZ (hw _ (List.mem_of_getElem? (i := 54) rfl)) (hw _ (List.mem_of_getElem? (i := 11) rfl)) (by decide) (by decide)) q76a q76c (g := (mkF mt 29 #[.val (.ref a), .val (.ref s1), .val (.ref s2), .val (.int (0 : Int32))] [(.int (0 : Int32)), (.ref s1), (.ref b59)])) rfl (by rw [hml]; rfl) (Steps.refl _) (argsL := [(.int (0 : Int32))]) (rest := [(.ref b59)]) (lenOf pd_9 rfl) rfl (by show 2 * 0 + _ ≤ _; exact Nat.le_of_eq rfl) (hb hby d_prog_18_method_1_29) (fun _ _ => ⟨rfl, e75, (by decide : 1 + 0 ≤ _), (by decide : 256 + 0 ≤ _)⟩)
  dsimp only [Pt.U, Pt.locs, Pt.cells, Pt.slots] at X76 l76 y76 z76 st76 hQ76
  subst y76 z76
  replace X76 : Stand p l e _ s mt args below meth cd T76 L76 1 256 := X76
  obtain ⟨h76, e76⟩ : ∃ z, T76.heap = z := ⟨_, rfl⟩
  rw [e76] at hQ76
  obtain ⟨rfl, Nq76, eh76⟩ := hQ76
  have N76 : Fr n0 L76 := by rw [l76]; exact Fr.app N74 Nq76
  rw [eh76] at e76
  rw [own_byte hB0] at st76
  refine Win.tr ?_ st76
  show Win p e below _ T76 (mkF mt 32 #[.val (.ref a), .val (.ref s1), .val (.ref s2), .val (.int (0 : Int32))] [(.int o), (.ref b59)])
  obtain ⟨v77, _, ⟨T77, L77, k77, n77⟩, -, X77, ⟨Lc77, hQ77, l77, y77, z77⟩, st77⟩ := Jvm.LawKit.callS X76 hx (y := (⟨"com/example/modest_tableau/modesttableau/document/BracketDepth", "latin1", "(C)I"⟩ : MethodName)) hown (mvT hZ (hw _ (List.mem_of_getElem? (i := 71) rfl))) (mvT hZ (hw _ (List.mem_of_getElem? (i := 72) rfl))) (mvT hZ (hw _ (List.mem_of_getElem? (i := 8) rfl))) (mvT hZ (hw _ (List.mem_of_getElem? (i := 73) rfl))) (by decide) (backOf (W := 1) (rm_latin1 l Z a0 hw [] o h70 n0 Z72 (own_lt (by rw [own_i256]; have := hB0.2; omega))) hZ (hw _ (List.mem_of_getElem? (i := 73) rfl)) (hw _ (List.mem_of_getElem? (i := 8) rfl)) (by decide) (by decide)) (g := (mkF mt 32 #[.val (.ref a), .val (.ref s1), .val (.ref s2), .val (.int (0 : Int32))] [(.int o), (.ref b59)])) rfl (by rw [hml]; rfl) (argsL := [(.int o)]) (rest := [(.ref b59)]) (lenOf pd_10 rfl) rfl (by show 2 * 0 + _ ≤ _; exact Nat.le_of_eq rfl) (hb hby d_prog_18_method_1_32) (fun _ _ => ⟨rfl, e76, (by decide : 1 + 0 ≤ _), (by decide : 256 + 0 ≤ _)⟩)
  dsimp only [Pt.U, Pt.locs, Pt.cells, Pt.slots] at X77 l77 y77 z77 st77 hQ77
  subst y77 z77
  replace X77 : Stand p l e _ s mt args below meth cd T77 L77 1 256 := X77
  obtain ⟨h77, e77⟩ : ∃ z, T77.heap = z := ⟨_, rfl⟩
  rw [e77] at hQ77
  obtain ⟨rfl, Nq77, eh77⟩ := hQ77
  have N77 : Fr n0 L77 := by rw [l77]; exact Fr.app N76 Nq77
  rw [eh77] at e77
  refine Win.st ?_ st77
  show Win p e below _ T77 (mkF mt 35 #[.val (.ref a), .val (.ref s1), .val (.ref s2), .val (.int (0 : Int32))] [(.int o), (.ref b59)])
  refine Win.st ?_ (fun tq kq => XS.iconst X77.here hx rfl (hb hby d_prog_18_method_1_35) kq)
  show Win p e below _ T77 (mkF mt 36 #[.val (.ref a), .val (.ref s1), .val (.ref s2), .val (.int (0 : Int32))] [(.int (1 : Int32)), (.int o), (.ref b59)])
  obtain ⟨T78, h78, L78, X78, N78, e78, kp78, V78, st78⟩ := own_bast (g := (mkF mt 36 #[.val (.ref a), .val (.ref s1), .val (.ref s2), .val (.int (0 : Int32))] [(.int (1 : Int32)), (.int o), (.ref b59)])) X77 hx hZ e77 N77 g65 f71_55 (j := o) (own_nlt (by rw [own_i0]; exact hB0.1)) (own_lt (by rw [own_i256]; have := hB0.2; omega)) (i := o.toNatClampNeg) rfl (by have := own_nat hB0; have := hB0.2; simp; omega) rfl rfl (hb hby d_prog_18_method_1_36)
  replace V78 : Arv Z h78 b59 k59 .byte (256 : Int32) (((List.replicate 256 (.int (0 : Int32))).set o.toNatClampNeg (.int (1 : Int32)))) (.int (0 : Int32)) := V78
  have f79_119 := f71_45.keep kp78 (allS g65 all0)
  have f79_120 := f71_46.keep kp78
  have f79_121 := fw70.keep kp78 (ninS ne60 nin0)
  have f79_122 := f70_43.keep kp78 (ninS ne60 nin0)
  have f79_123 := f70_44.keep kp78 (ninS ne60 nin0)
  have f79_124 := f71_47.keep kp78
  have f79_125 := f71_48.keep kp78 (ninS ne61 nin0)
  have f79_126 := f71_49.keep kp78 (ninS ne61 nin0)
  have f79_127 := f71_50.keep kp78 (ninS ne62 nin0)
  have f79_128 := f71_51.keep kp78
  have f79_129 := f71_52.keep kp78 (ninS ne63 nin0)
  have f79_130 := f71_53.keep kp78 (ninS ne63 nin0)
  have f79_131 := f71_54.keep kp78 (ninS ne64 nin0)
  have Z80 : n0 ≤ h78.size := Nat.le_trans Z72 kp78.1
  have K81 : Keep h0 h78 [a] := Keep.trans K73 kp78 (allS (Or.inr z66) all0)
  refine Win.st ?_ st78
  show Win p e below _ T78 (mkF mt 37 #[.val (.ref a), .val (.ref s1), .val (.ref s2), .val (.int (0 : Int32))] [])
  refine Win.st ?_ (fun tq kq => XS.iinc X78.here hx rfl (hb hby d_prog_18_method_1_37) rfl (l' := #[.val (.ref a), .val (.ref s1), .val (.ref s2), .val (.int (1 : Int32))]) rfl kq)
  show Win p e below _ T78 (mkF mt 40 #[.val (.ref a), .val (.ref s1), .val (.ref s2), .val (.int (1 : Int32))] [])
  refine Win.st ?_ (fun tq kq => XS.goto X78.here hx rfl (pc0 := 40) (pc' := 15) rfl (hb hby d_prog_18_method_1_40) (by decide) (by decide) kq)
  show Win p e below _ T78 (mkF mt 15 #[.val (.ref a), .val (.ref s1), .val (.ref s2), .val (.int (1 : Int32))] [])
  refine Win.st ?_ (fun tq kq => XS.iloadN X78.here hx rfl (hb hby d_prog_18_method_1_15) rfl kq)
  show Win p e below _ T78 (mkF mt 16 #[.val (.ref a), .val (.ref s1), .val (.ref s2), .val (.int (1 : Int32))] [(.int (1 : Int32))])
  refine Win.st ?_ (fun tq kq => XS.aloadN X78.here hx rfl (hb hby d_prog_18_method_1_16) rfl rfl kq)
  show Win p e below _ T78 (mkF mt 17 #[.val (.ref a), .val (.ref s1), .val (.ref s2), .val (.int (1 : Int32))] [(.ref s1), (.int (1 : Int32))])
  obtain ⟨cq82, kq82, q82a, q82b, q82c⟩ := isOf hZ e78 f79_124
  obtain ⟨v82, _, ⟨T82, L82, k82, n82⟩, -, X82, ⟨Lc82, hQ82, l82, y82, z82⟩, st82⟩ := X78.virtualBack hx (y := (⟨"java/lang/String", "length", "()I"⟩ : MethodName)) (z := (⟨"java/lang/String", "length", "()I"⟩ : MethodName)) hown (mvT hZ (hw _ (List.mem_of_getElem? (i := 40) rfl))) (mvT hZ (hw _ (List.mem_of_getElem? (i := 41) rfl))) (notFace_of_selects (args := #[]) (mvT hZ (hw _ (List.mem_of_getElem? (i := 43) rfl)))) (mvT hZ (hw _ (List.mem_of_getElem? (i := 43) rfl))) (mvT hZ (hw _ (List.mem_of_getElem? (i := 42) rfl))) (by decide) (backOf (W := 1) (rm_slen l Z a0 hw [] s1 t0 kt0 (1 : Int32) [(.int (o.toInt8.toInt32))] cs h78 n0 Z80 f79_124 f79_125 f79_126 f79_127 S0 hcs f79_119) hZ (hw _ (List.mem_of_getElem? (i := 44) rfl)) (hw _ (List.mem_of_getElem? (i := 11) rfl)) (by decide) (by decide)) q82a q82c (g := (mkF mt 17 #[.val (.ref a), .val (.ref s1), .val (.ref s2), .val (.int (1 : Int32))] [(.ref s1), (.int (1 : Int32))])) rfl (by rw [hml]; rfl) (Steps.refl _) (argsL := []) (rest := [(.int (1 : Int32))]) (lenOf pd_8 rfl) rfl (by show 2 * 0 + _ ≤ _; exact Nat.le_of_eq rfl) (hb hby d_prog_18_method_1_17) (fun _ _ => ⟨rfl, e78, (by decide : 1 + 0 ≤ _), (by decide : 256 + 0 ≤ _)⟩)
  dsimp only [Pt.U, Pt.locs, Pt.cells, Pt.slots] at X82 l82 y82 z82 st82 hQ82
  subst y82 z82
  replace X82 : Stand p l e _ s mt args below meth cd T82 L82 1 256 := X82
  obtain ⟨h82, e82⟩ : ∃ z, T82.heap = z := ⟨_, rfl⟩
  rw [e82] at hQ82
  obtain ⟨rfl, Nq82, eh82⟩ := hQ82
  have N82 : Fr n0 L82 := by rw [l82]; exact Fr.app N78 Nq82
  rw [eh82] at e82
  refine Win.tr ?_ st82
  show Win p e below _ T82 (mkF mt 20 #[.val (.ref a), .val (.ref s1), .val (.ref s2), .val (.int (1 : Int32))] [(.int (1 : Int32)), (.int (1 : Int32))])
  refine Win.st ?_ (fun tq kq => XS.icmpYes X82.here hx rfl (pc0 := 20) (pc' := 43) rfl (hb hby d_prog_18_method_1_20) rfl (flt (Int32.lt_irrefl)).2.1 (by decide) (by decide) kq)
  show Win p e below _ T82 (mkF mt 43 #[.val (.ref a), .val (.ref s1), .val (.ref s2), .val (.int (1 : Int32))] [])
  refine Win.st ?_ (fun tq kq => XS.iconst X82.here hx rfl (hb hby d_prog_18_method_1_43) kq)
  show Win p e below _ T82 (mkF mt 44 #[.val (.ref a), .val (.ref s1), .val (.ref s2), .val (.int (1 : Int32))] [(.int (0 : Int32))])
  refine Win.st ?_ (fun tq kq => XS.istoreN X82.here hx rfl (hb hby d_prog_18_method_1_44) rfl (l' := #[.val (.ref a), .val (.ref s1), .val (.ref s2), .val (.int (0 : Int32))]) rfl kq)
  show Win p e below _ T82 (mkF mt 45 #[.val (.ref a), .val (.ref s1), .val (.ref s2), .val (.int (0 : Int32))] [])
  refine Win.st ?_ (fun tq kq => XS.iloadN X82.here hx rfl (hb hby d_prog_18_method_1_45) rfl kq)
  show Win p e below _ T82 (mkF mt 46 #[.val (.ref a), .val (.ref s1), .val (.ref s2), .val (.int (0 : Int32))] [(.int (0 : Int32))])
  refine Win.st ?_ (fun tq kq => XS.aloadN X82.here hx rfl (hb hby d_prog_18_method_1_46) rfl rfl kq)
  show Win p e below _ T82 (mkF mt 47 #[.val (.ref a), .val (.ref s1), .val (.ref s2), .val (.int (0 : Int32))] [(.ref s2), (.int (0 : Int32))])
  obtain ⟨cq83, kq83, q83a, q83b, q83c⟩ := isOf hZ e82 f79_128
  obtain ⟨v83, _, ⟨T83, L83, k83, n83⟩, -, X83, ⟨Lc83, hQ83, l83, y83, z83⟩, st83⟩ := X82.virtualBack hx (y := (⟨"java/lang/String", "length", "()I"⟩ : MethodName)) (z := (⟨"java/lang/String", "length", "()I"⟩ : MethodName)) hown (mvT hZ (hw _ (List.mem_of_getElem? (i := 40) rfl))) (mvT hZ (hw _ (List.mem_of_getElem? (i := 41) rfl))) (notFace_of_selects (args := #[]) (mvT hZ (hw _ (List.mem_of_getElem? (i := 43) rfl)))) (mvT hZ (hw _ (List.mem_of_getElem? (i := 43) rfl))) (mvT hZ (hw _ (List.mem_of_getElem? (i := 42) rfl))) (by decide) (backOf (W := 1) (rm_slen l Z a0 hw [] s2 t1 kt1 (1 : Int32) [(.int (c.toInt8.toInt32))] cs h78 n0 Z80 f79_128 f79_129 f79_130 f79_131 S0 hcs f79_119) hZ (hw _ (List.mem_of_getElem? (i := 44) rfl)) (hw _ (List.mem_of_getElem? (i := 11) rfl)) (by decide) (by decide)) q83a q83c (g := (mkF mt 47 #[.val (.ref a), .val (.ref s1), .val (.ref s2), .val (.int (0 : Int32))] [(.ref s2), (.int (0 : Int32))])) rfl (by rw [hml]; rfl) (Steps.refl _) (argsL := []) (rest := [(.int (0 : Int32))]) (lenOf pd_8 rfl) rfl (by show 2 * 0 + _ ≤ _; exact Nat.le_of_eq rfl) (hb hby d_prog_18_method_1_47) (fun _ _ => ⟨rfl, e82, (by decide : 1 + 0 ≤ _), (by decide : 256 + 0 ≤ _)⟩)
  dsimp only [Pt.U, Pt.locs, Pt.cells, Pt.slots] at X83 l83 y83 z83 st83 hQ83
  subst y83 z83
  replace X83 : Stand p l e _ s mt args below meth cd T83 L83 1 256 := X83
  obtain ⟨h83, e83⟩ : ∃ z, T83.heap = z := ⟨_, rfl⟩
  rw [e83] at hQ83
  obtain ⟨rfl, Nq83, eh83⟩ := hQ83
  have N83 : Fr n0 L83 := by rw [l83]; exact Fr.app N82 Nq83
  rw [eh83] at e83
  refine Win.tr ?_ st83
  show Win p e below _ T83 (mkF mt 50 #[.val (.ref a), .val (.ref s1), .val (.ref s2), .val (.int (0 : Int32))] [(.int (1 : Int32)), (.int (0 : Int32))])
  refine Win.st ?_ (fun tq kq => XS.icmpNo X83.here hx rfl (hb hby d_prog_18_method_1_50) rfl (tlt (by decide : (0 : Int32) < (1 : Int32))).2.1 kq)
  show Win p e below _ T83 (mkF mt 53 #[.val (.ref a), .val (.ref s1), .val (.ref s2), .val (.int (0 : Int32))] [])
  refine Win.st ?_ (fun tq kq => XS.aloadN X83.here hx rfl (hb hby d_prog_18_method_1_53) rfl rfl kq)
  show Win p e below _ T83 (mkF mt 54 #[.val (.ref a), .val (.ref s1), .val (.ref s2), .val (.int (0 : Int32))] [(.ref a)])
  obtain ⟨T84, X84, e84, st84⟩ := getF X83 hx hZ hown (host := "") (Or.inl (hw _ (List.mem_of_getElem? (i := 38) rfl))) Via.refl e83 f79_121 (g := (mkF mt 54 #[.val (.ref a), .val (.ref s1), .val (.ref s2), .val (.int (0 : Int32))] [(.ref a)])) rfl rfl (hb hby d_prog_18_method_1_54)
  refine Win.st ?_ st84
  show Win p e below _ T84 (mkF mt 57 #[.val (.ref a), .val (.ref s1), .val (.ref s2), .val (.int (0 : Int32))] [(.ref b59)])
  refine Win.st ?_ (fun tq kq => XS.aloadN X84.here hx rfl (hb hby d_prog_18_method_1_57) rfl rfl kq)
  show Win p e below _ T84 (mkF mt 58 #[.val (.ref a), .val (.ref s1), .val (.ref s2), .val (.int (0 : Int32))] [(.ref s2), (.ref b59)])
  refine Win.st ?_ (fun tq kq => XS.iloadN X84.here hx rfl (hb hby d_prog_18_method_1_58) rfl kq)
  show Win p e below _ T84 (mkF mt 59 #[.val (.ref a), .val (.ref s1), .val (.ref s2), .val (.int (0 : Int32))] [(.int (0 : Int32)), (.ref s2), (.ref b59)])
  obtain ⟨cq85, kq85, q85a, q85b, q85c⟩ := isOf hZ e84 f79_128
  obtain ⟨v85, _, ⟨T85, L85, k85, n85⟩, -, X85, ⟨Lc85, hQ85, l85, y85, z85⟩, st85⟩ := X84.virtualBack hx (y := (⟨"java/lang/String", "charAt", "(I)C"⟩ : MethodName)) (z := (⟨"java/lang/String", "charAt", "(I)C"⟩ : MethodName)) hown (mvT hZ (hw _ (List.mem_of_getElem? (i := 50) rfl))) (mvT hZ (hw _ (List.mem_of_getElem? (i := 51) rfl))) (notFace_of_selects (args := #[]) (mvT hZ (hw _ (List.mem_of_getElem? (i := 53) rfl)))) (mvT hZ (hw _ (List.mem_of_getElem? (i := 53) rfl))) (mvT hZ (hw _ (List.mem_of_getElem? (i := 52) rfl))) (by decide) (backOf (W := 1) (rm_sch l Z a0 hw [] s2 (0 : Int32) t1 kt1 (1 : Int32) [(.int (c.toInt8.toInt32))] cs (c.toInt8.toInt32) u h78 n0 Z80 f79_128 f79_129 f79_130 f79_131 (by decide) (by decide) rfl S0 hcs f79_119 S1 hu) hZ (hw _ (List.mem_of_getElem? (i := 54) rfl)) (hw _ (List.mem_of_getElem? (i := 11) rfl)) (by decide) (by decide)) q85a q85c (g := (mkF mt 59 #[.val (.ref a), .val (.ref s1), .val (.ref s2), .val (.int (0 : Int32))] [(.int (0 : Int32)), (.ref s2), (.ref b59)])) rfl (by rw [hml]; rfl) (Steps.refl _) (argsL := [(.int (0 : Int32))]) (rest := [(.ref b59)]) (lenOf pd_9 rfl) rfl (by show 2 * 0 + _ ≤ _; exact Nat.le_of_eq rfl) (hb hby d_prog_18_method_1_59) (fun _ _ => ⟨rfl, e84, (by decide : 1 + 0 ≤ _), (by decide : 256 + 0 ≤ _)⟩)
  dsimp only [Pt.U, Pt.locs, Pt.cells, Pt.slots] at X85 l85 y85 z85 st85 hQ85
  subst y85 z85
  replace X85 : Stand p l e _ s mt args below meth cd T85 L85 1 256 := X85
  obtain ⟨h85, e85⟩ : ∃ z, T85.heap = z := ⟨_, rfl⟩
  rw [e85] at hQ85
  obtain ⟨rfl, Nq85, eh85⟩ := hQ85
  have N85 : Fr n0 L85 := by rw [l85]; exact Fr.app N83 Nq85
  rw [eh85] at e85
  rw [own_byte hB1] at st85
  refine Win.tr ?_ st85
  show Win p e below _ T85 (mkF mt 62 #[.val (.ref a), .val (.ref s1), .val (.ref s2), .val (.int (0 : Int32))] [(.int c), (.ref b59)])
  obtain ⟨v86, _, ⟨T86, L86, k86, n86⟩, -, X86, ⟨Lc86, hQ86, l86, y86, z86⟩, st86⟩ := Jvm.LawKit.callS X85 hx (y := (⟨"com/example/modest_tableau/modesttableau/document/BracketDepth", "latin1", "(C)I"⟩ : MethodName)) hown (mvT hZ (hw _ (List.mem_of_getElem? (i := 71) rfl))) (mvT hZ (hw _ (List.mem_of_getElem? (i := 72) rfl))) (mvT hZ (hw _ (List.mem_of_getElem? (i := 8) rfl))) (mvT hZ (hw _ (List.mem_of_getElem? (i := 73) rfl))) (by decide) (backOf (W := 1) (rm_latin1 l Z a0 hw [] c h78 n0 Z80 (own_lt (by rw [own_i256]; have := hB1.2; omega))) hZ (hw _ (List.mem_of_getElem? (i := 73) rfl)) (hw _ (List.mem_of_getElem? (i := 8) rfl)) (by decide) (by decide)) (g := (mkF mt 62 #[.val (.ref a), .val (.ref s1), .val (.ref s2), .val (.int (0 : Int32))] [(.int c), (.ref b59)])) rfl (by rw [hml]; rfl) (argsL := [(.int c)]) (rest := [(.ref b59)]) (lenOf pd_10 rfl) rfl (by show 2 * 0 + _ ≤ _; exact Nat.le_of_eq rfl) (hb hby d_prog_18_method_1_62) (fun _ _ => ⟨rfl, e85, (by decide : 1 + 0 ≤ _), (by decide : 256 + 0 ≤ _)⟩)
  dsimp only [Pt.U, Pt.locs, Pt.cells, Pt.slots] at X86 l86 y86 z86 st86 hQ86
  subst y86 z86
  replace X86 : Stand p l e _ s mt args below meth cd T86 L86 1 256 := X86
  obtain ⟨h86, e86⟩ : ∃ z, T86.heap = z := ⟨_, rfl⟩
  rw [e86] at hQ86
  obtain ⟨rfl, Nq86, eh86⟩ := hQ86
  have N86 : Fr n0 L86 := by rw [l86]; exact Fr.app N85 Nq86
  rw [eh86] at e86
  refine Win.st ?_ st86
  show Win p e below _ T86 (mkF mt 65 #[.val (.ref a), .val (.ref s1), .val (.ref s2), .val (.int (0 : Int32))] [(.int c), (.ref b59)])
  refine Win.st ?_ (fun tq kq => XS.iconst X86.here hx rfl (hb hby d_prog_18_method_1_65) kq)
  show Win p e below _ T86 (mkF mt 66 #[.val (.ref a), .val (.ref s1), .val (.ref s2), .val (.int (0 : Int32))] [(.int (-1 : Int32)), (.int c), (.ref b59)])
  obtain ⟨T87, h87, L87, X87, N87, e87, kp87, V87, st87⟩ := own_bast (g := (mkF mt 66 #[.val (.ref a), .val (.ref s1), .val (.ref s2), .val (.int (0 : Int32))] [(.int (-1 : Int32)), (.int c), (.ref b59)])) X86 hx hZ e86 N86 g65 V78 (j := c) (own_nlt (by rw [own_i0]; exact hB1.1)) (own_lt (by rw [own_i256]; have := hB1.2; omega)) (i := c.toNatClampNeg) rfl (by have := own_nat hB1; have := hB1.2; simp; omega) rfl rfl (hb hby d_prog_18_method_1_66)
  replace V87 : Arv Z h87 b59 k59 .byte (256 : Int32) (((((List.replicate 256 (.int (0 : Int32))).set o.toNatClampNeg (.int (1 : Int32)))).set c.toNatClampNeg (.int (-1 : Int32)))) (.int (0 : Int32)) := V87
  have f88_217 := f79_119.keep kp87 (allS g65 all0)
  have f88_218 := f79_120.keep kp87
  have f88_219 := f79_121.keep kp87 (ninS ne60 nin0)
  have f88_220 := f79_122.keep kp87 (ninS ne60 nin0)
  have f88_221 := f79_123.keep kp87 (ninS ne60 nin0)
  have f88_222 := f79_124.keep kp87
  have f88_223 := f79_125.keep kp87 (ninS ne61 nin0)
  have f88_224 := f79_126.keep kp87 (ninS ne61 nin0)
  have f88_225 := f79_127.keep kp87 (ninS ne62 nin0)
  have f88_226 := f79_128.keep kp87
  have f88_227 := f79_129.keep kp87 (ninS ne63 nin0)
  have f88_228 := f79_130.keep kp87 (ninS ne63 nin0)
  have f88_229 := f79_131.keep kp87 (ninS ne64 nin0)
  have Z89 : n0 ≤ h87.size := Nat.le_trans Z80 kp87.1
  have K90 : Keep h0 h87 [a] := Keep.trans K81 kp87 (allS (Or.inr z66) all0)
  refine Win.st ?_ st87
  show Win p e below _ T87 (mkF mt 67 #[.val (.ref a), .val (.ref s1), .val (.ref s2), .val (.int (0 : Int32))] [])
  refine Win.st ?_ (fun tq kq => XS.iinc X87.here hx rfl (hb hby d_prog_18_method_1_67) rfl (l' := #[.val (.ref a), .val (.ref s1), .val (.ref s2), .val (.int (1 : Int32))]) rfl kq)
  show Win p e below _ T87 (mkF mt 70 #[.val (.ref a), .val (.ref s1), .val (.ref s2), .val (.int (1 : Int32))] [])
  refine Win.st ?_ (fun tq kq => XS.goto X87.here hx rfl (pc0 := 70) (pc' := 45) rfl (hb hby d_prog_18_method_1_70) (by decide) (by decide) kq)
  show Win p e below _ T87 (mkF mt 45 #[.val (.ref a), .val (.ref s1), .val (.ref s2), .val (.int (1 : Int32))] [])
  refine Win.st ?_ (fun tq kq => XS.iloadN X87.here hx rfl (hb hby d_prog_18_method_1_45) rfl kq)
  show Win p e below _ T87 (mkF mt 46 #[.val (.ref a), .val (.ref s1), .val (.ref s2), .val (.int (1 : Int32))] [(.int (1 : Int32))])
  refine Win.st ?_ (fun tq kq => XS.aloadN X87.here hx rfl (hb hby d_prog_18_method_1_46) rfl rfl kq)
  show Win p e below _ T87 (mkF mt 47 #[.val (.ref a), .val (.ref s1), .val (.ref s2), .val (.int (1 : Int32))] [(.ref s2), (.int (1 : Int32))])
  obtain ⟨cq91, kq91, q91a, q91b, q91c⟩ := isOf hZ e87 f88_226
  obtain ⟨v91, _, ⟨T91, L91, k91, n91⟩, -, X91, ⟨Lc91, hQ91, l91, y91, z91⟩, st91⟩ := X87.virtualBack hx (y := (⟨"java/lang/String", "length", "()I"⟩ : MethodName)) (z := (⟨"java/lang/String", "length", "()I"⟩ : MethodName)) hown (mvT hZ (hw _ (List.mem_of_getElem? (i := 40) rfl))) (mvT hZ (hw _ (List.mem_of_getElem? (i := 41) rfl))) (notFace_of_selects (args := #[]) (mvT hZ (hw _ (List.mem_of_getElem? (i := 43) rfl)))) (mvT hZ (hw _ (List.mem_of_getElem? (i := 43) rfl))) (mvT hZ (hw _ (List.mem_of_getElem? (i := 42) rfl))) (by decide) (backOf (W := 1) (rm_slen l Z a0 hw [] s2 t1 kt1 (1 : Int32) [(.int (c.toInt8.toInt32))] cs h87 n0 Z89 f88_226 f88_227 f88_228 f88_229 S0 hcs f88_217) hZ (hw _ (List.mem_of_getElem? (i := 44) rfl)) (hw _ (List.mem_of_getElem? (i := 11) rfl)) (by decide) (by decide)) q91a q91c (g := (mkF mt 47 #[.val (.ref a), .val (.ref s1), .val (.ref s2), .val (.int (1 : Int32))] [(.ref s2), (.int (1 : Int32))])) rfl (by rw [hml]; rfl) (Steps.refl _) (argsL := []) (rest := [(.int (1 : Int32))]) (lenOf pd_8 rfl) rfl (by show 2 * 0 + _ ≤ _; exact Nat.le_of_eq rfl) (hb hby d_prog_18_method_1_47) (fun _ _ => ⟨rfl, e87, (by decide : 1 + 0 ≤ _), (by decide : 256 + 0 ≤ _)⟩)
  dsimp only [Pt.U, Pt.locs, Pt.cells, Pt.slots] at X91 l91 y91 z91 st91 hQ91
  subst y91 z91
  replace X91 : Stand p l e _ s mt args below meth cd T91 L91 1 256 := X91
  obtain ⟨h91, e91⟩ : ∃ z, T91.heap = z := ⟨_, rfl⟩
  rw [e91] at hQ91
  obtain ⟨rfl, Nq91, eh91⟩ := hQ91
  have N91 : Fr n0 L91 := by rw [l91]; exact Fr.app N87 Nq91
  rw [eh91] at e91
  refine Win.tr ?_ st91
  show Win p e below _ T91 (mkF mt 50 #[.val (.ref a), .val (.ref s1), .val (.ref s2), .val (.int (1 : Int32))] [(.int (1 : Int32)), (.int (1 : Int32))])
  refine Win.st ?_ (fun tq kq => XS.icmpYes X91.here hx rfl (pc0 := 50) (pc' := 73) rfl (hb hby d_prog_18_method_1_50) rfl (flt (Int32.lt_irrefl)).2.1 (by decide) (by decide) kq)
  show Win p e below _ T91 (mkF mt 73 #[.val (.ref a), .val (.ref s1), .val (.ref s2), .val (.int (1 : Int32))] [])
  exact Win.retV X91 hx hlk e91 hrt (hb hby d_prog_18_method_1_73) (by decide) (by decide) ⟨rfl, N91, K90, f88_220, f88_221, b59, _, g65, ne60, z66, f88_219, V87⟩
theorem d_prog_18_method_5_0 : decode prog_18_method_5_code 0 = .ok (.aload_n 0, 1) := by decide +kernel
theorem d_prog_18_method_5_1 : decode prog_18_method_5_code 1 = .ok (.dup, 1) := by decide +kernel
theorem d_prog_18_method_5_2 : decode prog_18_method_5_code 2 = .ok (.getfield 39, 3) := by decide +kernel
theorem d_prog_18_method_5_5 : decode prog_18_method_5_code 5 = .ok (.iload_n 1, 1) := by decide +kernel
theorem d_prog_18_method_5_6 : decode prog_18_method_5_code 6 = .ok (.iadd, 1) := by decide +kernel
theorem d_prog_18_method_5_7 : decode prog_18_method_5_code 7 = .ok (.putfield 39, 3) := by decide +kernel
theorem d_prog_18_method_5_10 : decode prog_18_method_5_code 10 = .ok (.aload_n 0, 1) := by decide +kernel
theorem d_prog_18_method_5_11 : decode prog_18_method_5_code 11 = .ok (.aload_n 0, 1) := by decide +kernel
theorem d_prog_18_method_5_12 : decode prog_18_method_5_code 12 = .ok (.getfield 35, 3) := by decide +kernel
theorem d_prog_18_method_5_15 : decode prog_18_method_5_code 15 = .ok (.aload_n 0, 1) := by decide +kernel
theorem d_prog_18_method_5_16 : decode prog_18_method_5_code 16 = .ok (.getfield 39, 3) := by decide +kernel
theorem d_prog_18_method_5_19 : decode prog_18_method_5_code 19 = .ok (.invokestatic 42, 3) := by decide +kernel
theorem pd_11 : parseMethodDescriptor "(II)I" = some ⟨[.int, .int], some .int⟩ := by decide +kernel
theorem d_prog_18_method_5_22 : decode prog_18_method_5_code 22 = .ok (.putfield 35, 3) := by decide +kernel
theorem d_prog_18_method_5_25 : decode prog_18_method_5_code 25 = .ok (.return_, 1) := by decide +kernel
theorem ef_step (mt : MethodId) (a : Addr) (x : Int32) : entryFrame mt #[(.ref a), (.int x)] 2 = mkF mt 0 #[.val (.ref a), .val (.int x)] [] := by first | (simp [entryFrame, mkF, argsToLocals, Value.category]; done) | rfl
def Q_step (Z : State) (a : Addr) (x : Int32) (d : Int32) (m : Int32) (t : Addr) (h0 : Heap) (n0 : Nat) (v : Option Value) (h : Heap) (L : List Loc) : Prop := v = none ∧ Fr n0 L ∧ Keep h0 h [a] ∧ Fld Z h a "com/example/modest_tableau/modesttableau/document/BracketDepth" "depth" "I" (.int (d + x)) ∧ Fld Z h a "com/example/modest_tableau/modesttableau/document/BracketDepth" "deepest" "I" (.int (own_max m (d + x))) ∧ Fld Z h a "com/example/modest_tableau/modesttableau/document/BracketDepth" "steps" "[B" (.ref t)
set_option maxRecDepth 65536 in
set_option maxHeartbeats 40000000 in
theorem rm_step (l : Launch) (Z : State) (a0 : Array Value) (hw : ∀ d ∈ tables_1, d.before a0 Z = true) (ws : List Jvm.Cond) (a : Addr) (x : Int32) (d : Int32) (m : Int32) (t : Addr) (h0 : Heap) (n0 : Nat) (Z0 : n0 ≤ h0.size) (E : Exa Z h0 a "com/example/modest_tableau/modesttableau/document/BracketDepth") (F1 : Fld Z h0 a "com/example/modest_tableau/modesttableau/document/BracketDepth" "depth" "I" (.int d)) (F2 : Fld Z h0 a "com/example/modest_tableau/modesttableau/document/BracketDepth" "deepest" "I" (.int m)) (F3 : Fld Z h0 a "com/example/modest_tableau/modesttableau/document/BracketDepth" "steps" "[B" (.ref t)) (ga : n0 ≤ a) :
    MetFree l (⟨"com/example/modest_tableau/modesttableau/document/BracketDepth", "step", "(B)V"⟩ : MethodName) (head1 (Jvm.Cond.code (⟨"com/example/modest_tableau/modesttableau/document/BracketDepth", "step", "(B)V"⟩ : MethodName) prog_18_method_5_code 2 none :: ws) ({ frames := 1, cells := 0, slots := 0, locals := 14 } : Room)) (fun aa UU => aa = #[(.ref a), (.int x)] ∧ Z.Warmed39 UU.vm ∧ UU.heap = h0) (fun _ _ _ _ _ => True) (fun _ UU oo UU' => ∃ vv LL, oo = .returned vv ∧ Q_step Z a x d m t h0 n0 vv UU'.heap LL ∧ FrameEnd UU oo UU' LL ({ frames := 1, cells := 0, slots := 0, locals := 14 } : Room).cells ({ frames := 1, cells := 0, slots := 0, locals := 14 } : Room).slots) := by
  refine MetFree.of_bodySF (plainFor_of_name pn_4) hisR ?_
  intro p e s mt args below meth cd s₁ Bd hml0 hP hK
  obtain ⟨hA, hZ, hh⟩ := hP
  have hx := Bd.exec
  have hby := Bd.bytes
  have hml : cd.maxLocals = 2 := hml0
  have hown : s.vm.findClass "com/example/modest_tableau/modesttableau/document/BracketDepth" = some mt.cls := findClass_of_methodNamed Bd.named
  have hnm := (name_of_methodNamed Bd.named Bd.method).1
  have hlk : meth.locks = false := BodyLoose.notSynchronized Bd
  have hrt := Bd.returns
  have X0 : Stand p l e ({ frames := 1, cells := 0, slots := 0, locals := 14 } : Room) s mt args below meth cd s₁ [] 0 0 := Stand.of_body Bd
  have e0 : s₁.heap = h0 := by rw [← hh, Bd.state]; rfl
  have N0 := Fr.nil n0
  show Win p e below (Ends s (Q_step Z a x d m t h0 n0) ({ frames := 1, cells := 0, slots := 0, locals := 14 } : Room).cells ({ frames := 1, cells := 0, slots := 0, locals := 14 } : Room).slots) s₁ (entryFrame mt args 2)
  rw [hA, ef_step]
  refine Win.st ?_ (fun tq kq => XS.aloadN X0.here hx rfl (hb hby d_prog_18_method_5_0) rfl rfl kq)
  show Win p e below _ s₁ (mkF mt 1 #[.val (.ref a), .val (.int x)] [(.ref a)])
  refine Win.st ?_ (fun tq kq => XS.dup X0.here hx rfl (hb hby d_prog_18_method_5_1) rfl rfl kq)
  show Win p e below _ s₁ (mkF mt 2 #[.val (.ref a), .val (.int x)] [(.ref a), (.ref a)])
  obtain ⟨T92, X92, e92, st92⟩ := getF X0 hx hZ hown (host := "") (Or.inl (hw _ (List.mem_of_getElem? (i := 83) rfl))) Via.refl e0 F1 (g := (mkF mt 2 #[.val (.ref a), .val (.int x)] [(.ref a), (.ref a)])) rfl rfl (hb hby d_prog_18_method_5_2)
  refine Win.st ?_ st92
  show Win p e below _ T92 (mkF mt 5 #[.val (.ref a), .val (.int x)] [(.int d), (.ref a)])
  refine Win.st ?_ (fun tq kq => XS.iloadN X92.here hx rfl (hb hby d_prog_18_method_5_5) rfl kq)
  show Win p e below _ T92 (mkF mt 6 #[.val (.ref a), .val (.int x)] [(.int x), (.int d), (.ref a)])
  refine Win.st ?_ (fun tq kq => XS.iadd X92.here hx rfl (hb hby d_prog_18_method_5_6) rfl kq)
  show Win p e below _ T92 (mkF mt 7 #[.val (.ref a), .val (.int x)] [(.int (d + x)), (.ref a)])
  obtain ⟨T93, h93, X93, e93, W93, st93⟩ := putF X92 hx hZ hown (host := "") (Or.inl (hw _ (List.mem_of_getElem? (i := 83) rfl))) Via.refl e92 F1 E (Or.inl (hw _ (List.mem_of_getElem? (i := 84) rfl))) (hw _ (List.mem_of_getElem? (i := 7) rfl)) (ty := .int) (by decide) rfl rfl (g := (mkF mt 7 #[.val (.ref a), .val (.int x)] [(.int (d + x)), (.ref a)])) rfl rfl (hb hby d_prog_18_method_5_7)
  obtain ⟨L93, X93, N93⟩ := own_hide X93 N0 ga
  have kp93 := Keep.of_wr W93
  have fw93 := F1.same W93
  have f93_15 := F2.other W93 (Or.inr (slot_ne (Or.inl (hw _ (List.mem_of_getElem? (i := 86) rfl))) (Or.inl (hw _ (List.mem_of_getElem? (i := 84) rfl))) (by decide) (t := .int) (t' := .int) (by decide) (by decide)))
  have f93_16 := F3.other W93 (Or.inr (slot_ne (Or.inr (hw _ (List.mem_of_getElem? (i := 39) rfl))) (Or.inl (hw _ (List.mem_of_getElem? (i := 84) rfl))) (by decide) (t := (.array .byte)) (t' := .int) (by decide) (by decide)))
  have f94_17 := E.keep kp93
  have Z95 : n0 ≤ h93.size := Nat.le_trans Z0 kp93.1
  have K96 : Keep h0 h93 [a] := Keep.trans (Keep.refl h0 [a]) kp93 (allS (Or.inl (List.mem_of_getElem? (i := 0) rfl)) all0)
  refine Win.st ?_ st93
  show Win p e below _ T93 (mkF mt 10 #[.val (.ref a), .val (.int x)] [])
  refine Win.st ?_ (fun tq kq => XS.aloadN X93.here hx rfl (hb hby d_prog_18_method_5_10) rfl rfl kq)
  show Win p e below _ T93 (mkF mt 11 #[.val (.ref a), .val (.int x)] [(.ref a)])
  refine Win.st ?_ (fun tq kq => XS.aloadN X93.here hx rfl (hb hby d_prog_18_method_5_11) rfl rfl kq)
  show Win p e below _ T93 (mkF mt 12 #[.val (.ref a), .val (.int x)] [(.ref a), (.ref a)])
  obtain ⟨T97, X97, e97, st97⟩ := getF X93 hx hZ hown (host := "") (Or.inl (hw _ (List.mem_of_getElem? (i := 85) rfl))) Via.refl e93 f93_15 (g := (mkF mt 12 #[.val (.ref a), .val (.int x)] [(.ref a), (.ref a)])) rfl rfl (hb hby d_prog_18_method_5_12)
  refine Win.st ?_ st97
  show Win p e below _ T97 (mkF mt 15 #[.val (.ref a), .val (.int x)] [(.int m), (.ref a)])
  refine Win.st ?_ (fun tq kq => XS.aloadN X97.here hx rfl (hb hby d_prog_18_method_5_15) rfl rfl kq)
  show Win p e below _ T97 (mkF mt 16 #[.val (.ref a), .val (.int x)] [(.ref a), (.int m), (.ref a)])
  obtain ⟨T98, X98, e98, st98⟩ := getF X97 hx hZ hown (host := "") (Or.inl (hw _ (List.mem_of_getElem? (i := 83) rfl))) Via.refl e97 fw93 (g := (mkF mt 16 #[.val (.ref a), .val (.int x)] [(.ref a), (.int m), (.ref a)])) rfl rfl (hb hby d_prog_18_method_5_16)
  refine Win.st ?_ st98
  show Win p e below _ T98 (mkF mt 19 #[.val (.ref a), .val (.int x)] [(.int (d + x)), (.int m), (.ref a)])
  obtain ⟨v99, _, ⟨T99, L99, k99, n99⟩, -, X99, ⟨Lc99, hQ99, l99, y99, z99⟩, st99⟩ := Jvm.LawKit.callS X98 hx (y := (⟨"java/lang/Math", "max", "(II)I"⟩ : MethodName)) hown (mvT hZ (hw _ (List.mem_of_getElem? (i := 87) rfl))) (mvT hZ (hw _ (List.mem_of_getElem? (i := 88) rfl))) (mvT hZ (hw _ (List.mem_of_getElem? (i := 89) rfl))) (mvT hZ (hw _ (List.mem_of_getElem? (i := 90) rfl))) (by decide) (backOf (W := 1) (rm_max l Z a0 hw [] m (d + x) h93 n0 Z95 ) hZ (hw _ (List.mem_of_getElem? (i := 90) rfl)) (hw _ (List.mem_of_getElem? (i := 89) rfl)) (by decide) (by decide)) (g := (mkF mt 19 #[.val (.ref a), .val (.int x)] [(.int (d + x)), (.int m), (.ref a)])) rfl (by rw [hml]; rfl) (argsL := [(.int m), (.int (d + x))]) (rest := [(.ref a)]) (lenOf pd_11 rfl) rfl (by show 2 * 0 + _ ≤ _; exact Nat.le_of_eq rfl) (hb hby d_prog_18_method_5_19) (fun _ _ => ⟨rfl, e98, (by decide : 0 + 0 ≤ _), (by decide : 0 + 0 ≤ _)⟩)
  dsimp only [Pt.U, Pt.locs, Pt.cells, Pt.slots] at X99 l99 y99 z99 st99 hQ99
  subst y99 z99
  replace X99 : Stand p l e _ s mt args below meth cd T99 L99 0 0 := X99
  obtain ⟨h99, e99⟩ : ∃ z, T99.heap = z := ⟨_, rfl⟩
  rw [e99] at hQ99
  obtain ⟨rfl, Nq99, eh99⟩ := hQ99
  have N99 : Fr n0 L99 := by rw [l99]; exact Fr.app N93 Nq99
  rw [eh99] at e99
  refine Win.st ?_ st99
  show Win p e below _ T99 (mkF mt 22 #[.val (.ref a), .val (.int x)] [(.int (own_max m (d + x))), (.ref a)])
  obtain ⟨T100, h100, X100, e100, W100, st100⟩ := putF X99 hx hZ hown (host := "") (Or.inl (hw _ (List.mem_of_getElem? (i := 85) rfl))) Via.refl e99 f93_15 f94_17 (Or.inl (hw _ (List.mem_of_getElem? (i := 86) rfl))) (hw _ (List.mem_of_getElem? (i := 7) rfl)) (ty := .int) (by decide) rfl rfl (g := (mkF mt 22 #[.val (.ref a), .val (.int x)] [(.int (own_max m (d + x))), (.ref a)])) rfl rfl (hb hby d_prog_18_method_5_22)
  obtain ⟨L100, X100, N100⟩ := own_hide X100 N99 ga
  have kp100 := Keep.of_wr W100
  have f100_48 := fw93.other W100 (Or.inr (slot_ne (Or.inl (hw _ (List.mem_of_getElem? (i := 84) rfl))) (Or.inl (hw _ (List.mem_of_getElem? (i := 86) rfl))) (by decide) (t := .int) (t' := .int) (by decide) (by decide)))
  have fw100 := f93_15.same W100
  have f100_50 := f93_16.other W100 (Or.inr (slot_ne (Or.inr (hw _ (List.mem_of_getElem? (i := 39) rfl))) (Or.inl (hw _ (List.mem_of_getElem? (i := 86) rfl))) (by decide) (t := (.array .byte)) (t' := .int) (by decide) (by decide)))
  have f101_51 := f94_17.keep kp100
  have Z102 : n0 ≤ h100.size := Nat.le_trans Z95 kp100.1
  have K103 : Keep h0 h100 [a] := Keep.trans K96 kp100 (allS (Or.inl (List.mem_of_getElem? (i := 0) rfl)) all0)
  refine Win.st ?_ st100
  show Win p e below _ T100 (mkF mt 25 #[.val (.ref a), .val (.int x)] [])
  exact Win.retV X100 hx hlk e100 hrt (hb hby d_prog_18_method_5_25) (by decide) (by decide) ⟨rfl, N100, K103, f100_48, fw100, f100_50⟩
theorem d_prog_18_method_3_0 : decode prog_18_method_3_code 0 = .ok (.iconst 0, 1) := by decide +kernel
theorem d_prog_18_method_3_1 : decode prog_18_method_3_code 1 = .ok (.istore_n 3, 1) := by decide +kernel
theorem d_prog_18_method_3_2 : decode prog_18_method_3_code 2 = .ok (.iload_n 3, 1) := by decide +kernel
theorem d_prog_18_method_3_3 : decode prog_18_method_3_code 3 = .ok (.iload_n 2, 1) := by decide +kernel
theorem d_prog_18_method_3_4 : decode prog_18_method_3_code 4 = .ok (.if_icmp .ge 25, 3) := by decide +kernel
theorem d_prog_18_method_3_29 : decode prog_18_method_3_code 29 = .ok (.return_, 1) := by decide +kernel
theorem d_prog_18_method_3_7 : decode prog_18_method_3_code 7 = .ok (.aload_n 0, 1) := by decide +kernel
theorem d_prog_18_method_3_8 : decode prog_18_method_3_code 8 = .ok (.aload_n 0, 1) := by decide +kernel
theorem d_prog_18_method_3_9 : decode prog_18_method_3_code 9 = .ok (.getfield 7, 3) := by decide +kernel
theorem d_prog_18_method_3_12 : decode prog_18_method_3_code 12 = .ok (.aload_n 1, 1) := by decide +kernel
theorem d_prog_18_method_3_13 : decode prog_18_method_3_code 13 = .ok (.iload_n 3, 1) := by decide +kernel
theorem d_prog_18_method_3_14 : decode prog_18_method_3_code 14 = .ok (.baload, 1) := by decide +kernel
theorem d_prog_18_method_3_15 : decode prog_18_method_3_code 15 = .ok (.sipush 255, 3) := by decide +kernel
theorem d_prog_18_method_3_18 : decode prog_18_method_3_code 18 = .ok (.iand, 1) := by decide +kernel
theorem d_prog_18_method_3_19 : decode prog_18_method_3_code 19 = .ok (.baload, 1) := by decide +kernel
theorem d_prog_18_method_3_20 : decode prog_18_method_3_code 20 = .ok (.invokevirtual 31, 3) := by decide +kernel
theorem pd_12 : parseMethodDescriptor "(B)V" = some ⟨[.byte], none⟩ := by decide +kernel
theorem d_prog_18_method_3_23 : decode prog_18_method_3_code 23 = .ok (.iinc 3 1, 3) := by decide +kernel
theorem d_prog_18_method_3_26 : decode prog_18_method_3_code 26 = .ok (.goto (-24), 3) := by decide +kernel
theorem ef_bdadd (mt : MethodId) (a : Addr) (b : Addr) (n_ : Int32) : entryFrame mt #[(.ref a), (.ref b), (.int n_)] 4 = mkF mt 0 #[.val (.ref a), .val (.ref b), .val (.int n_), .unset] [] := by first | (simp [entryFrame, mkF, argsToLocals, Value.category]; done) | rfl
def Q_bdadd (Z : State) (a : Addr) (b : Addr) (n_ : Int32) (d : Int32) (m : Int32) (t : Addr) (kt : ClassId) (kb : ClassId) (o : Int32) (c : Int32) (x0 : Int32) (x1 : Int32) (x2 : Int32) (x3 : Int32) (h0 : Heap) (n0 : Nat) (v : Option Value) (h : Heap) (L : List Loc) : Prop := v = none ∧ Fr n0 L ∧ Keep h0 h [a] ∧ Fld Z h a "com/example/modest_tableau/modesttableau/document/BracketDepth" "depth" "I" (.int (own_fd n_ (3 : Int32) (own_fd n_ (2 : Int32) (own_fd n_ (1 : Int32) (own_fd n_ (0 : Int32) d (own_s o c x0)) (own_s o c x1)) (own_s o c x2)) (own_s o c x3))) ∧ Fld Z h a "com/example/modest_tableau/modesttableau/document/BracketDepth" "deepest" "I" (.int (own_fm n_ (3 : Int32) (own_fd n_ (2 : Int32) (own_fd n_ (1 : Int32) (own_fd n_ (0 : Int32) d (own_s o c x0)) (own_s o c x1)) (own_s o c x2)) (own_fm n_ (2 : Int32) (own_fd n_ (1 : Int32) (own_fd n_ (0 : Int32) d (own_s o c x0)) (own_s o c x1)) (own_fm n_ (1 : Int32) (own_fd n_ (0 : Int32) d (own_s o c x0)) (own_fm n_ (0 : Int32) d m (own_s o c x0)) (own_s o c x1)) (own_s o c x2)) (own_s o c x3))) ∧ Fld Z h a "com/example/modest_tableau/modesttableau/document/BracketDepth" "steps" "[B" (.ref t)
set_option maxRecDepth 65536 in
set_option maxHeartbeats 40000000 in
theorem rm_bdadd (l : Launch) (Z : State) (a0 : Array Value) (hw : ∀ d ∈ tables_1, d.before a0 Z = true) (ws : List Jvm.Cond) (a : Addr) (b : Addr) (n_ : Int32) (d : Int32) (m : Int32) (t : Addr) (kt : ClassId) (kb : ClassId) (o : Int32) (c : Int32) (x0 : Int32) (x1 : Int32) (x2 : Int32) (x3 : Int32) (h0 : Heap) (n0 : Nat) (Z0 : n0 ≤ h0.size) (E : Exa Z h0 a "com/example/modest_tableau/modesttableau/document/BracketDepth") (F1 : Fld Z h0 a "com/example/modest_tableau/modesttableau/document/BracketDepth" "depth" "I" (.int d)) (F2 : Fld Z h0 a "com/example/modest_tableau/modesttableau/document/BracketDepth" "deepest" "I" (.int m)) (F3 : Fld Z h0 a "com/example/modest_tableau/modesttableau/document/BracketDepth" "steps" "[B" (.ref t)) (VT : Arv Z h0 t kt .byte (256 : Int32) (own_tab o c) (.int (0 : Int32))) (VB : Arv Z h0 b kb .byte (4 : Int32) [(.int (x0.toInt8.toInt32)), (.int (x1.toInt8.toInt32)), (.int (x2.toInt8.toInt32)), (.int (x3.toInt8.toInt32))] (.int (0 : Int32))) (ga : n0 ≤ a) (nt : t ≠ a) (nb : b ≠ a) (ho : own_B o) (hc : own_B c) (hx0 : own_B x0) (hx1 : own_B x1) (hx2 : own_B x2) (hx3 : own_B x3) (hn : n_ = 0 ∨ n_ = 1 ∨ n_ = 2 ∨ n_ = 3 ∨ n_ = 4) :
    MetFree l (⟨"com/example/modest_tableau/modesttableau/document/BracketDepth", "add", "([BI)V"⟩ : MethodName) (head1 (Jvm.Cond.code (⟨"com/example/modest_tableau/modesttableau/document/BracketDepth", "add", "([BI)V"⟩ : MethodName) prog_18_method_3_code 4 none :: ws) ({ frames := 2, cells := 0, slots := 0, locals := 27 } : Room)) (fun aa UU => aa = #[(.ref a), (.ref b), (.int n_)] ∧ Z.Warmed39 UU.vm ∧ UU.heap = h0) (fun _ _ _ _ _ => True) (fun _ UU oo UU' => ∃ vv LL, oo = .returned vv ∧ Q_bdadd Z a b n_ d m t kt kb o c x0 x1 x2 x3 h0 n0 vv UU'.heap LL ∧ FrameEnd UU oo UU' LL ({ frames := 2, cells := 0, slots := 0, locals := 27 } : Room).cells ({ frames := 2, cells := 0, slots := 0, locals := 27 } : Room).slots) := by
  refine MetFree.of_bodySF (plainFor_of_name pn_4) hisR ?_
  intro p e s mt args below meth cd s₁ Bd hml0 hP hK
  obtain ⟨hA, hZ, hh⟩ := hP
  have hx := Bd.exec
  have hby := Bd.bytes
  have hml : cd.maxLocals = 4 := hml0
  have hown : s.vm.findClass "com/example/modest_tableau/modesttableau/document/BracketDepth" = some mt.cls := findClass_of_methodNamed Bd.named
  have hnm := (name_of_methodNamed Bd.named Bd.method).1
  have hlk : meth.locks = false := BodyLoose.notSynchronized Bd
  have hrt := Bd.returns
  have X0 : Stand p l e ({ frames := 2, cells := 0, slots := 0, locals := 27 } : Room) s mt args below meth cd s₁ [] 0 0 := Stand.of_body Bd
  have e0 : s₁.heap = h0 := by rw [← hh, Bd.state]; rfl
  have N0 := Fr.nil n0
  show Win p e below (Ends s (Q_bdadd Z a b n_ d m t kt kb o c x0 x1 x2 x3 h0 n0) ({ frames := 2, cells := 0, slots := 0, locals := 27 } : Room).cells ({ frames := 2, cells := 0, slots := 0, locals := 27 } : Room).slots) s₁ (entryFrame mt args 4)
  rw [hA, ef_bdadd]
  rcases hn with rfl | rfl | rfl | rfl | rfl
  · show Win p e below _ s₁ (mkF mt 0 #[.val (.ref a), .val (.ref b), .val (.int (0 : Int32)), .unset] [])
    refine Win.st ?_ (fun tq kq => XS.iconst X0.here hx rfl (hb hby d_prog_18_method_3_0) kq)
    show Win p e below _ s₁ (mkF mt 1 #[.val (.ref a), .val (.ref b), .val (.int (0 : Int32)), .unset] [(.int (0 : Int32))])
    refine Win.st ?_ (fun tq kq => XS.istoreN X0.here hx rfl (hb hby d_prog_18_method_3_1) rfl (l' := #[.val (.ref a), .val (.ref b), .val (.int (0 : Int32)), .val (.int (0 : Int32))]) rfl kq)
    show Win p e below _ s₁ (mkF mt 2 #[.val (.ref a), .val (.ref b), .val (.int (0 : Int32)), .val (.int (0 : Int32))] [])
    refine Win.st ?_ (fun tq kq => XS.iloadN X0.here hx rfl (hb hby d_prog_18_method_3_2) rfl kq)
    show Win p e below _ s₁ (mkF mt 3 #[.val (.ref a), .val (.ref b), .val (.int (0 : Int32)), .val (.int (0 : Int32))] [(.int (0 : Int32))])
    refine Win.st ?_ (fun tq kq => XS.iloadN X0.here hx rfl (hb hby d_prog_18_method_3_3) rfl kq)
    show Win p e below _ s₁ (mkF mt 4 #[.val (.ref a), .val (.ref b), .val (.int (0 : Int32)), .val (.int (0 : Int32))] [(.int (0 : Int32)), (.int (0 : Int32))])
    refine Win.st ?_ (fun tq kq => XS.icmpYes X0.here hx rfl (pc0 := 4) (pc' := 29) rfl (hb hby d_prog_18_method_3_4) rfl (flt (Int32.lt_irrefl)).2.1 (by decide) (by decide) kq)
    show Win p e below _ s₁ (mkF mt 29 #[.val (.ref a), .val (.ref b), .val (.int (0 : Int32)), .val (.int (0 : Int32))] [])
    exact Win.retV X0 hx hlk e0 hrt (hb hby d_prog_18_method_3_29) (by decide) (by decide) ⟨rfl, N0, (Keep.refl h0 [a]), by simpa [own_fd, own_fm] using F1, by simpa [own_fd, own_fm] using F2, F3⟩
  · show Win p e below _ s₁ (mkF mt 0 #[.val (.ref a), .val (.ref b), .val (.int (1 : Int32)), .unset] [])
    refine Win.st ?_ (fun tq kq => XS.iconst X0.here hx rfl (hb hby d_prog_18_method_3_0) kq)
    show Win p e below _ s₁ (mkF mt 1 #[.val (.ref a), .val (.ref b), .val (.int (1 : Int32)), .unset] [(.int (0 : Int32))])
    refine Win.st ?_ (fun tq kq => XS.istoreN X0.here hx rfl (hb hby d_prog_18_method_3_1) rfl (l' := #[.val (.ref a), .val (.ref b), .val (.int (1 : Int32)), .val (.int (0 : Int32))]) rfl kq)
    show Win p e below _ s₁ (mkF mt 2 #[.val (.ref a), .val (.ref b), .val (.int (1 : Int32)), .val (.int (0 : Int32))] [])
    refine Win.st ?_ (fun tq kq => XS.iloadN X0.here hx rfl (hb hby d_prog_18_method_3_2) rfl kq)
    show Win p e below _ s₁ (mkF mt 3 #[.val (.ref a), .val (.ref b), .val (.int (1 : Int32)), .val (.int (0 : Int32))] [(.int (0 : Int32))])
    refine Win.st ?_ (fun tq kq => XS.iloadN X0.here hx rfl (hb hby d_prog_18_method_3_3) rfl kq)
    show Win p e below _ s₁ (mkF mt 4 #[.val (.ref a), .val (.ref b), .val (.int (1 : Int32)), .val (.int (0 : Int32))] [(.int (1 : Int32)), (.int (0 : Int32))])
    refine Win.st ?_ (fun tq kq => XS.icmpNo X0.here hx rfl (hb hby d_prog_18_method_3_4) rfl (tlt (by decide : (0 : Int32) < (1 : Int32))).2.1 kq)
    show Win p e below _ s₁ (mkF mt 7 #[.val (.ref a), .val (.ref b), .val (.int (1 : Int32)), .val (.int (0 : Int32))] [])
    refine Win.st ?_ (fun tq kq => XS.aloadN X0.here hx rfl (hb hby d_prog_18_method_3_7) rfl rfl kq)
    show Win p e below _ s₁ (mkF mt 8 #[.val (.ref a), .val (.ref b), .val (.int (1 : Int32)), .val (.int (0 : Int32))] [(.ref a)])
    refine Win.st ?_ (fun tq kq => XS.aloadN X0.here hx rfl (hb hby d_prog_18_method_3_8) rfl rfl kq)
    show Win p e below _ s₁ (mkF mt 9 #[.val (.ref a), .val (.ref b), .val (.int (1 : Int32)), .val (.int (0 : Int32))] [(.ref a), (.ref a)])
    obtain ⟨T104, X104, e104, st104⟩ := getF X0 hx hZ hown (host := "") (Or.inl (hw _ (List.mem_of_getElem? (i := 38) rfl))) Via.refl e0 F3 (g := (mkF mt 9 #[.val (.ref a), .val (.ref b), .val (.int (1 : Int32)), .val (.int (0 : Int32))] [(.ref a), (.ref a)])) rfl rfl (hb hby d_prog_18_method_3_9)
    refine Win.st ?_ st104
    show Win p e below _ T104 (mkF mt 12 #[.val (.ref a), .val (.ref b), .val (.int (1 : Int32)), .val (.int (0 : Int32))] [(.ref t), (.ref a)])
    refine Win.st ?_ (fun tq kq => XS.aloadN X104.here hx rfl (hb hby d_prog_18_method_3_12) rfl rfl kq)
    show Win p e below _ T104 (mkF mt 13 #[.val (.ref a), .val (.ref b), .val (.int (1 : Int32)), .val (.int (0 : Int32))] [(.ref b), (.ref t), (.ref a)])
    refine Win.st ?_ (fun tq kq => XS.iloadN X104.here hx rfl (hb hby d_prog_18_method_3_13) rfl kq)
    show Win p e below _ T104 (mkF mt 14 #[.val (.ref a), .val (.ref b), .val (.int (1 : Int32)), .val (.int (0 : Int32))] [(.int (0 : Int32)), (.ref b), (.ref t), (.ref a)])
    refine Win.st ?_ (own_bald (g := (mkF mt 14 #[.val (.ref a), .val (.ref b), .val (.int (1 : Int32)), .val (.int (0 : Int32))] [(.int (0 : Int32)), (.ref b), (.ref t), (.ref a)])) X104 hx hZ e104 VB (j := (0 : Int32)) (v := (.int (x0.toInt8.toInt32))) (by decide) (by decide) rfl rfl rfl (hb hby d_prog_18_method_3_14))
    show Win p e below _ T104 (mkF mt 15 #[.val (.ref a), .val (.ref b), .val (.int (1 : Int32)), .val (.int (0 : Int32))] [(.int (x0.toInt8.toInt32)), (.ref t), (.ref a)])
    refine Win.st ?_ (fun tq kq => XS.sipush X104.here hx rfl (hb hby d_prog_18_method_3_15) kq)
    show Win p e below _ T104 (mkF mt 18 #[.val (.ref a), .val (.ref b), .val (.int (1 : Int32)), .val (.int (0 : Int32))] [(.int (255 : Int32)), (.int (x0.toInt8.toInt32)), (.ref t), (.ref a)])
    refine Win.st ?_ (fun tq kq => XS.iand X104.here hx rfl (hb hby d_prog_18_method_3_18) rfl kq)
    show Win p e below _ T104 (mkF mt 19 #[.val (.ref a), .val (.ref b), .val (.int (1 : Int32)), .val (.int (0 : Int32))] [(.int ((x0.toInt8.toInt32) &&& (255 : Int32))), (.ref t), (.ref a)])
    rw [own_byte hx0]
    show Win p e below _ T104 (mkF mt 19 #[.val (.ref a), .val (.ref b), .val (.int (1 : Int32)), .val (.int (0 : Int32))] [(.int x0), (.ref t), (.ref a)])
    refine Win.st ?_ (own_bald (g := (mkF mt 19 #[.val (.ref a), .val (.ref b), .val (.int (1 : Int32)), .val (.int (0 : Int32))] [(.int x0), (.ref t), (.ref a)])) X104 hx hZ e104 VT (j := x0) (v := (.int (own_s o c x0))) (own_nlt (by rw [own_i0]; exact hx0.1)) (own_lt (by rw [own_i256]; have := hx0.2; omega)) (own_tab_at ho hc hx0) rfl rfl (hb hby d_prog_18_method_3_19))
    show Win p e below _ T104 (mkF mt 20 #[.val (.ref a), .val (.ref b), .val (.int (1 : Int32)), .val (.int (0 : Int32))] [(.int (own_s o c x0)), (.ref a)])
    obtain ⟨cq105, q105, q105'⟩ := E.cell
    obtain ⟨v105, _, ⟨T105, L105, k105, n105⟩, -, X105, ⟨Lc105, hQ105, l105, y105, z105⟩, st105⟩ := X104.privateBack hx (y := (⟨"com/example/modest_tableau/modesttableau/document/BracketDepth", "step", "(B)V"⟩ : MethodName)) hown (mvT hZ (hw _ (List.mem_of_getElem? (i := 79) rfl))) (mvT hZ (hw _ (List.mem_of_getElem? (i := 80) rfl))) (own_selp (mvT hZ (hw _ (List.mem_of_getElem? (i := 7) rfl))) (Cond.privateMethod_at (mvP hZ (hw _ (List.mem_of_getElem? (i := 81) rfl)) (args := #[]))) (mvT hZ (hw _ (List.mem_of_getElem? (i := 80) rfl))) (by decide)) (Cond.privateMethod_at (mvP hZ (hw _ (List.mem_of_getElem? (i := 81) rfl)) (args := #[]))) (mvT hZ (hw _ (List.mem_of_getElem? (i := 82) rfl))) (by decide) (backOf (W := 0) (rm_step l Z a0 hw [] a (own_s o c x0) d m t h0 n0 Z0 E F1 F2 F3 ga) hZ (hw _ (List.mem_of_getElem? (i := 82) rfl)) (hw _ (List.mem_of_getElem? (i := 8) rfl)) (by decide) (by decide)) (g := (mkF mt 20 #[.val (.ref a), .val (.ref b), .val (.int (1 : Int32)), .val (.int (0 : Int32))] [(.int (own_s o c x0)), (.ref a)])) rfl (by rw [hml]; rfl) (Steps.refl _) (a := a) (by rw [e104]; exact q105) q105' (argsL := [(.int (own_s o c x0))]) (rest := []) (lenOf pd_12 rfl) rfl (by show 2 * 0 + _ ≤ _; exact Nat.le_of_eq rfl) (hb hby d_prog_18_method_3_20) (fun _ _ => ⟨rfl, e104, (by decide : 0 + 0 ≤ _), (by decide : 0 + 0 ≤ _)⟩)
    dsimp only [Pt.U, Pt.locs, Pt.cells, Pt.slots] at X105 l105 y105 z105 st105 hQ105
    subst y105 z105
    replace X105 : Stand p l e _ s mt args below meth cd T105 L105 0 0 := X105
    obtain ⟨h105, e105⟩ : ∃ z, T105.heap = z := ⟨_, rfl⟩
    rw [e105] at hQ105
    obtain ⟨rfl, Nq105, K105, fd105, fm105, fs105⟩ := hQ105
    have N105 : Fr n0 L105 := by rw [l105]; exact Fr.app N0 Nq105
    have f106_54 := E.keep K105
    have f106_55 := VT.keep K105 (ninS nt nin0)
    have f106_56 := VB.keep K105 (ninS nb nin0)
    have Z107 : n0 ≤ h105.size := Nat.le_trans Z0 K105.1
    have K108 : Keep h0 h105 [a] := Keep.trans (Keep.refl h0 [a]) K105 (allS (Or.inl (List.mem_of_getElem? (i := 0) rfl)) all0)
    refine Win.tr ?_ st105
    show Win p e below _ T105 (mkF mt 23 #[.val (.ref a), .val (.ref b), .val (.int (1 : Int32)), .val (.int (0 : Int32))] [])
    refine Win.st ?_ (fun tq kq => XS.iinc X105.here hx rfl (hb hby d_prog_18_method_3_23) rfl (l' := #[.val (.ref a), .val (.ref b), .val (.int (1 : Int32)), .val (.int (1 : Int32))]) rfl kq)
    show Win p e below _ T105 (mkF mt 26 #[.val (.ref a), .val (.ref b), .val (.int (1 : Int32)), .val (.int (1 : Int32))] [])
    refine Win.st ?_ (fun tq kq => XS.goto X105.here hx rfl (pc0 := 26) (pc' := 2) rfl (hb hby d_prog_18_method_3_26) (by decide) (by decide) kq)
    show Win p e below _ T105 (mkF mt 2 #[.val (.ref a), .val (.ref b), .val (.int (1 : Int32)), .val (.int (1 : Int32))] [])
    refine Win.st ?_ (fun tq kq => XS.iloadN X105.here hx rfl (hb hby d_prog_18_method_3_2) rfl kq)
    show Win p e below _ T105 (mkF mt 3 #[.val (.ref a), .val (.ref b), .val (.int (1 : Int32)), .val (.int (1 : Int32))] [(.int (1 : Int32))])
    refine Win.st ?_ (fun tq kq => XS.iloadN X105.here hx rfl (hb hby d_prog_18_method_3_3) rfl kq)
    show Win p e below _ T105 (mkF mt 4 #[.val (.ref a), .val (.ref b), .val (.int (1 : Int32)), .val (.int (1 : Int32))] [(.int (1 : Int32)), (.int (1 : Int32))])
    refine Win.st ?_ (fun tq kq => XS.icmpYes X105.here hx rfl (pc0 := 4) (pc' := 29) rfl (hb hby d_prog_18_method_3_4) rfl (flt (Int32.lt_irrefl)).2.1 (by decide) (by decide) kq)
    show Win p e below _ T105 (mkF mt 29 #[.val (.ref a), .val (.ref b), .val (.int (1 : Int32)), .val (.int (1 : Int32))] [])
    exact Win.retV X105 hx hlk e105 hrt (hb hby d_prog_18_method_3_29) (by decide) (by decide) ⟨rfl, N105, K108, by simpa [own_fd, own_fm] using fd105, by simpa [own_fd, own_fm] using fm105, fs105⟩
  · show Win p e below _ s₁ (mkF mt 0 #[.val (.ref a), .val (.ref b), .val (.int (2 : Int32)), .unset] [])
    refine Win.st ?_ (fun tq kq => XS.iconst X0.here hx rfl (hb hby d_prog_18_method_3_0) kq)
    show Win p e below _ s₁ (mkF mt 1 #[.val (.ref a), .val (.ref b), .val (.int (2 : Int32)), .unset] [(.int (0 : Int32))])
    refine Win.st ?_ (fun tq kq => XS.istoreN X0.here hx rfl (hb hby d_prog_18_method_3_1) rfl (l' := #[.val (.ref a), .val (.ref b), .val (.int (2 : Int32)), .val (.int (0 : Int32))]) rfl kq)
    show Win p e below _ s₁ (mkF mt 2 #[.val (.ref a), .val (.ref b), .val (.int (2 : Int32)), .val (.int (0 : Int32))] [])
    refine Win.st ?_ (fun tq kq => XS.iloadN X0.here hx rfl (hb hby d_prog_18_method_3_2) rfl kq)
    show Win p e below _ s₁ (mkF mt 3 #[.val (.ref a), .val (.ref b), .val (.int (2 : Int32)), .val (.int (0 : Int32))] [(.int (0 : Int32))])
    refine Win.st ?_ (fun tq kq => XS.iloadN X0.here hx rfl (hb hby d_prog_18_method_3_3) rfl kq)
    show Win p e below _ s₁ (mkF mt 4 #[.val (.ref a), .val (.ref b), .val (.int (2 : Int32)), .val (.int (0 : Int32))] [(.int (2 : Int32)), (.int (0 : Int32))])
    refine Win.st ?_ (fun tq kq => XS.icmpNo X0.here hx rfl (hb hby d_prog_18_method_3_4) rfl (tlt (by decide : (0 : Int32) < (2 : Int32))).2.1 kq)
    show Win p e below _ s₁ (mkF mt 7 #[.val (.ref a), .val (.ref b), .val (.int (2 : Int32)), .val (.int (0 : Int32))] [])
    refine Win.st ?_ (fun tq kq => XS.aloadN X0.here hx rfl (hb hby d_prog_18_method_3_7) rfl rfl kq)
    show Win p e below _ s₁ (mkF mt 8 #[.val (.ref a), .val (.ref b), .val (.int (2 : Int32)), .val (.int (0 : Int32))] [(.ref a)])
    refine Win.st ?_ (fun tq kq => XS.aloadN X0.here hx rfl (hb hby d_prog_18_method_3_8) rfl rfl kq)
    show Win p e below _ s₁ (mkF mt 9 #[.val (.ref a), .val (.ref b), .val (.int (2 : Int32)), .val (.int (0 : Int32))] [(.ref a), (.ref a)])
    obtain ⟨T109, X109, e109, st109⟩ := getF X0 hx hZ hown (host := "") (Or.inl (hw _ (List.mem_of_getElem? (i := 38) rfl))) Via.refl e0 F3 (g := (mkF mt 9 #[.val (.ref a), .val (.ref b), .val (.int (2 : Int32)), .val (.int (0 : Int32))] [(.ref a), (.ref a)])) rfl rfl (hb hby d_prog_18_method_3_9)
    refine Win.st ?_ st109
    show Win p e below _ T109 (mkF mt 12 #[.val (.ref a), .val (.ref b), .val (.int (2 : Int32)), .val (.int (0 : Int32))] [(.ref t), (.ref a)])
    refine Win.st ?_ (fun tq kq => XS.aloadN X109.here hx rfl (hb hby d_prog_18_method_3_12) rfl rfl kq)
    show Win p e below _ T109 (mkF mt 13 #[.val (.ref a), .val (.ref b), .val (.int (2 : Int32)), .val (.int (0 : Int32))] [(.ref b), (.ref t), (.ref a)])
    refine Win.st ?_ (fun tq kq => XS.iloadN X109.here hx rfl (hb hby d_prog_18_method_3_13) rfl kq)
    show Win p e below _ T109 (mkF mt 14 #[.val (.ref a), .val (.ref b), .val (.int (2 : Int32)), .val (.int (0 : Int32))] [(.int (0 : Int32)), (.ref b), (.ref t), (.ref a)])
    refine Win.st ?_ (own_bald (g := (mkF mt 14 #[.val (.ref a), .val (.ref b), .val (.int (2 : Int32)), .val (.int (0 : Int32))] [(.int (0 : Int32)), (.ref b), (.ref t), (.ref a)])) X109 hx hZ e109 VB (j := (0 : Int32)) (v := (.int (x0.toInt8.toInt32))) (by decide) (by decide) rfl rfl rfl (hb hby d_prog_18_method_3_14))
    show Win p e below _ T109 (mkF mt 15 #[.val (.ref a), .val (.ref b), .val (.int (2 : Int32)), .val (.int (0 : Int32))] [(.int (x0.toInt8.toInt32)), (.ref t), (.ref a)])
    refine Win.st ?_ (fun tq kq => XS.sipush X109.here hx rfl (hb hby d_prog_18_method_3_15) kq)
    show Win p e below _ T109 (mkF mt 18 #[.val (.ref a), .val (.ref b), .val (.int (2 : Int32)), .val (.int (0 : Int32))] [(.int (255 : Int32)), (.int (x0.toInt8.toInt32)), (.ref t), (.ref a)])
    refine Win.st ?_ (fun tq kq => XS.iand X109.here hx rfl (hb hby d_prog_18_method_3_18) rfl kq)
    show Win p e below _ T109 (mkF mt 19 #[.val (.ref a), .val (.ref b), .val (.int (2 : Int32)), .val (.int (0 : Int32))] [(.int ((x0.toInt8.toInt32) &&& (255 : Int32))), (.ref t), (.ref a)])
    rw [own_byte hx0]
    show Win p e below _ T109 (mkF mt 19 #[.val (.ref a), .val (.ref b), .val (.int (2 : Int32)), .val (.int (0 : Int32))] [(.int x0), (.ref t), (.ref a)])
    refine Win.st ?_ (own_bald (g := (mkF mt 19 #[.val (.ref a), .val (.ref b), .val (.int (2 : Int32)), .val (.int (0 : Int32))] [(.int x0), (.ref t), (.ref a)])) X109 hx hZ e109 VT (j := x0) (v := (.int (own_s o c x0))) (own_nlt (by rw [own_i0]; exact hx0.1)) (own_lt (by rw [own_i256]; have := hx0.2; omega)) (own_tab_at ho hc hx0) rfl rfl (hb hby d_prog_18_method_3_19))
    show Win p e below _ T109 (mkF mt 20 #[.val (.ref a), .val (.ref b), .val (.int (2 : Int32)), .val (.int (0 : Int32))] [(.int (own_s o c x0)), (.ref a)])
    obtain ⟨cq110, q110, q110'⟩ := E.cell
    obtain ⟨v110, _, ⟨T110, L110, k110, n110⟩, -, X110, ⟨Lc110, hQ110, l110, y110, z110⟩, st110⟩ := X109.privateBack hx (y := (⟨"com/example/modest_tableau/modesttableau/document/BracketDepth", "step", "(B)V"⟩ : MethodName)) hown (mvT hZ (hw _ (List.mem_of_getElem? (i := 79) rfl))) (mvT hZ (hw _ (List.mem_of_getElem? (i := 80) rfl))) (own_selp (mvT hZ (hw _ (List.mem_of_getElem? (i := 7) rfl))) (Cond.privateMethod_at (mvP hZ (hw _ (List.mem_of_getElem? (i := 81) rfl)) (args := #[]))) (mvT hZ (hw _ (List.mem_of_getElem? (i := 80) rfl))) (by decide)) (Cond.privateMethod_at (mvP hZ (hw _ (List.mem_of_getElem? (i := 81) rfl)) (args := #[]))) (mvT hZ (hw _ (List.mem_of_getElem? (i := 82) rfl))) (by decide) (backOf (W := 0) (rm_step l Z a0 hw [] a (own_s o c x0) d m t h0 n0 Z0 E F1 F2 F3 ga) hZ (hw _ (List.mem_of_getElem? (i := 82) rfl)) (hw _ (List.mem_of_getElem? (i := 8) rfl)) (by decide) (by decide)) (g := (mkF mt 20 #[.val (.ref a), .val (.ref b), .val (.int (2 : Int32)), .val (.int (0 : Int32))] [(.int (own_s o c x0)), (.ref a)])) rfl (by rw [hml]; rfl) (Steps.refl _) (a := a) (by rw [e109]; exact q110) q110' (argsL := [(.int (own_s o c x0))]) (rest := []) (lenOf pd_12 rfl) rfl (by show 2 * 0 + _ ≤ _; exact Nat.le_of_eq rfl) (hb hby d_prog_18_method_3_20) (fun _ _ => ⟨rfl, e109, (by decide : 0 + 0 ≤ _), (by decide : 0 + 0 ≤ _)⟩)
    dsimp only [Pt.U, Pt.locs, Pt.cells, Pt.slots] at X110 l110 y110 z110 st110 hQ110
    subst y110 z110
    replace X110 : Stand p l e _ s mt args below meth cd T110 L110 0 0 := X110
    obtain ⟨h110, e110⟩ : ∃ z, T110.heap = z := ⟨_, rfl⟩
    rw [e110] at hQ110
    obtain ⟨rfl, Nq110, K110, fd110, fm110, fs110⟩ := hQ110
    have N110 : Fr n0 L110 := by rw [l110]; exact Fr.app N0 Nq110
    have f111_113 := E.keep K110
    have f111_114 := VT.keep K110 (ninS nt nin0)
    have f111_115 := VB.keep K110 (ninS nb nin0)
    have Z112 : n0 ≤ h110.size := Nat.le_trans Z0 K110.1
    have K113 : Keep h0 h110 [a] := Keep.trans (Keep.refl h0 [a]) K110 (allS (Or.inl (List.mem_of_getElem? (i := 0) rfl)) all0)
    refine Win.tr ?_ st110
    show Win p e below _ T110 (mkF mt 23 #[.val (.ref a), .val (.ref b), .val (.int (2 : Int32)), .val (.int (0 : Int32))] [])
    refine Win.st ?_ (fun tq kq => XS.iinc X110.here hx rfl (hb hby d_prog_18_method_3_23) rfl (l' := #[.val (.ref a), .val (.ref b), .val (.int (2 : Int32)), .val (.int (1 : Int32))]) rfl kq)
    show Win p e below _ T110 (mkF mt 26 #[.val (.ref a), .val (.ref b), .val (.int (2 : Int32)), .val (.int (1 : Int32))] [])
    refine Win.st ?_ (fun tq kq => XS.goto X110.here hx rfl (pc0 := 26) (pc' := 2) rfl (hb hby d_prog_18_method_3_26) (by decide) (by decide) kq)
    show Win p e below _ T110 (mkF mt 2 #[.val (.ref a), .val (.ref b), .val (.int (2 : Int32)), .val (.int (1 : Int32))] [])
    refine Win.st ?_ (fun tq kq => XS.iloadN X110.here hx rfl (hb hby d_prog_18_method_3_2) rfl kq)
    show Win p e below _ T110 (mkF mt 3 #[.val (.ref a), .val (.ref b), .val (.int (2 : Int32)), .val (.int (1 : Int32))] [(.int (1 : Int32))])
    refine Win.st ?_ (fun tq kq => XS.iloadN X110.here hx rfl (hb hby d_prog_18_method_3_3) rfl kq)
    show Win p e below _ T110 (mkF mt 4 #[.val (.ref a), .val (.ref b), .val (.int (2 : Int32)), .val (.int (1 : Int32))] [(.int (2 : Int32)), (.int (1 : Int32))])
    refine Win.st ?_ (fun tq kq => XS.icmpNo X110.here hx rfl (hb hby d_prog_18_method_3_4) rfl (tlt (by decide : (1 : Int32) < (2 : Int32))).2.1 kq)
    show Win p e below _ T110 (mkF mt 7 #[.val (.ref a), .val (.ref b), .val (.int (2 : Int32)), .val (.int (1 : Int32))] [])
    refine Win.st ?_ (fun tq kq => XS.aloadN X110.here hx rfl (hb hby d_prog_18_method_3_7) rfl rfl kq)
    show Win p e below _ T110 (mkF mt 8 #[.val (.ref a), .val (.ref b), .val (.int (2 : Int32)), .val (.int (1 : Int32))] [(.ref a)])
    refine Win.st ?_ (fun tq kq => XS.aloadN X110.here hx rfl (hb hby d_prog_18_method_3_8) rfl rfl kq)
    show Win p e below _ T110 (mkF mt 9 #[.val (.ref a), .val (.ref b), .val (.int (2 : Int32)), .val (.int (1 : Int32))] [(.ref a), (.ref a)])
    obtain ⟨T114, X114, e114, st114⟩ := getF X110 hx hZ hown (host := "") (Or.inl (hw _ (List.mem_of_getElem? (i := 38) rfl))) Via.refl e110 fs110 (g := (mkF mt 9 #[.val (.ref a), .val (.ref b), .val (.int (2 : Int32)), .val (.int (1 : Int32))] [(.ref a), (.ref a)])) rfl rfl (hb hby d_prog_18_method_3_9)
    refine Win.st ?_ st114
    show Win p e below _ T114 (mkF mt 12 #[.val (.ref a), .val (.ref b), .val (.int (2 : Int32)), .val (.int (1 : Int32))] [(.ref t), (.ref a)])
    refine Win.st ?_ (fun tq kq => XS.aloadN X114.here hx rfl (hb hby d_prog_18_method_3_12) rfl rfl kq)
    show Win p e below _ T114 (mkF mt 13 #[.val (.ref a), .val (.ref b), .val (.int (2 : Int32)), .val (.int (1 : Int32))] [(.ref b), (.ref t), (.ref a)])
    refine Win.st ?_ (fun tq kq => XS.iloadN X114.here hx rfl (hb hby d_prog_18_method_3_13) rfl kq)
    show Win p e below _ T114 (mkF mt 14 #[.val (.ref a), .val (.ref b), .val (.int (2 : Int32)), .val (.int (1 : Int32))] [(.int (1 : Int32)), (.ref b), (.ref t), (.ref a)])
    refine Win.st ?_ (own_bald (g := (mkF mt 14 #[.val (.ref a), .val (.ref b), .val (.int (2 : Int32)), .val (.int (1 : Int32))] [(.int (1 : Int32)), (.ref b), (.ref t), (.ref a)])) X114 hx hZ e114 f111_115 (j := (1 : Int32)) (v := (.int (x1.toInt8.toInt32))) (by decide) (by decide) rfl rfl rfl (hb hby d_prog_18_method_3_14))
    show Win p e below _ T114 (mkF mt 15 #[.val (.ref a), .val (.ref b), .val (.int (2 : Int32)), .val (.int (1 : Int32))] [(.int (x1.toInt8.toInt32)), (.ref t), (.ref a)])
    refine Win.st ?_ (fun tq kq => XS.sipush X114.here hx rfl (hb hby d_prog_18_method_3_15) kq)
    show Win p e below _ T114 (mkF mt 18 #[.val (.ref a), .val (.ref b), .val (.int (2 : Int32)), .val (.int (1 : Int32))] [(.int (255 : Int32)), (.int (x1.toInt8.toInt32)), (.ref t), (.ref a)])
    refine Win.st ?_ (fun tq kq => XS.iand X114.here hx rfl (hb hby d_prog_18_method_3_18) rfl kq)
    show Win p e below _ T114 (mkF mt 19 #[.val (.ref a), .val (.ref b), .val (.int (2 : Int32)), .val (.int (1 : Int32))] [(.int ((x1.toInt8.toInt32) &&& (255 : Int32))), (.ref t), (.ref a)])
    rw [own_byte hx1]
    show Win p e below _ T114 (mkF mt 19 #[.val (.ref a), .val (.ref b), .val (.int (2 : Int32)), .val (.int (1 : Int32))] [(.int x1), (.ref t), (.ref a)])
    refine Win.st ?_ (own_bald (g := (mkF mt 19 #[.val (.ref a), .val (.ref b), .val (.int (2 : Int32)), .val (.int (1 : Int32))] [(.int x1), (.ref t), (.ref a)])) X114 hx hZ e114 f111_114 (j := x1) (v := (.int (own_s o c x1))) (own_nlt (by rw [own_i0]; exact hx1.1)) (own_lt (by rw [own_i256]; have := hx1.2; omega)) (own_tab_at ho hc hx1) rfl rfl (hb hby d_prog_18_method_3_19))
    show Win p e below _ T114 (mkF mt 20 #[.val (.ref a), .val (.ref b), .val (.int (2 : Int32)), .val (.int (1 : Int32))] [(.int (own_s o c x1)), (.ref a)])
    obtain ⟨cq115, q115, q115'⟩ := f111_113.cell
    obtain ⟨v115, _, ⟨T115, L115, k115, n115⟩, -, X115, ⟨Lc115, hQ115, l115, y115, z115⟩, st115⟩ := X114.privateBack hx (y := (⟨"com/example/modest_tableau/modesttableau/document/BracketDepth", "step", "(B)V"⟩ : MethodName)) hown (mvT hZ (hw _ (List.mem_of_getElem? (i := 79) rfl))) (mvT hZ (hw _ (List.mem_of_getElem? (i := 80) rfl))) (own_selp (mvT hZ (hw _ (List.mem_of_getElem? (i := 7) rfl))) (Cond.privateMethod_at (mvP hZ (hw _ (List.mem_of_getElem? (i := 81) rfl)) (args := #[]))) (mvT hZ (hw _ (List.mem_of_getElem? (i := 80) rfl))) (by decide)) (Cond.privateMethod_at (mvP hZ (hw _ (List.mem_of_getElem? (i := 81) rfl)) (args := #[]))) (mvT hZ (hw _ (List.mem_of_getElem? (i := 82) rfl))) (by decide) (backOf (W := 0) (rm_step l Z a0 hw [] a (own_s o c x1) (d + (own_s o c x0)) (own_max m (d + (own_s o c x0))) t h110 n0 Z112 f111_113 fd110 fm110 fs110 ga) hZ (hw _ (List.mem_of_getElem? (i := 82) rfl)) (hw _ (List.mem_of_getElem? (i := 8) rfl)) (by decide) (by decide)) (g := (mkF mt 20 #[.val (.ref a), .val (.ref b), .val (.int (2 : Int32)), .val (.int (1 : Int32))] [(.int (own_s o c x1)), (.ref a)])) rfl (by rw [hml]; rfl) (Steps.refl _) (a := a) (by rw [e114]; exact q115) q115' (argsL := [(.int (own_s o c x1))]) (rest := []) (lenOf pd_12 rfl) rfl (by show 2 * 0 + _ ≤ _; exact Nat.le_of_eq rfl) (hb hby d_prog_18_method_3_20) (fun _ _ => ⟨rfl, e114, (by decide : 0 + 0 ≤ _), (by decide : 0 + 0 ≤ _)⟩)
    dsimp only [Pt.U, Pt.locs, Pt.cells, Pt.slots] at X115 l115 y115 z115 st115 hQ115
    subst y115 z115
    replace X115 : Stand p l e _ s mt args below meth cd T115 L115 0 0 := X115
    obtain ⟨h115, e115⟩ : ∃ z, T115.heap = z := ⟨_, rfl⟩
    rw [e115] at hQ115
    obtain ⟨rfl, Nq115, K115, fd115, fm115, fs115⟩ := hQ115
    have N115 : Fr n0 L115 := by rw [l115]; exact Fr.app N110 Nq115
    have f116_160 := f111_113.keep K115
    have f116_161 := f111_114.keep K115 (ninS nt nin0)
    have f116_162 := f111_115.keep K115 (ninS nb nin0)
    have Z117 : n0 ≤ h115.size := Nat.le_trans Z112 K115.1
    have K118 : Keep h0 h115 [a] := Keep.trans K113 K115 (allS (Or.inl (List.mem_of_getElem? (i := 0) rfl)) all0)
    refine Win.tr ?_ st115
    show Win p e below _ T115 (mkF mt 23 #[.val (.ref a), .val (.ref b), .val (.int (2 : Int32)), .val (.int (1 : Int32))] [])
    refine Win.st ?_ (fun tq kq => XS.iinc X115.here hx rfl (hb hby d_prog_18_method_3_23) rfl (l' := #[.val (.ref a), .val (.ref b), .val (.int (2 : Int32)), .val (.int (2 : Int32))]) rfl kq)
    show Win p e below _ T115 (mkF mt 26 #[.val (.ref a), .val (.ref b), .val (.int (2 : Int32)), .val (.int (2 : Int32))] [])
    refine Win.st ?_ (fun tq kq => XS.goto X115.here hx rfl (pc0 := 26) (pc' := 2) rfl (hb hby d_prog_18_method_3_26) (by decide) (by decide) kq)
    show Win p e below _ T115 (mkF mt 2 #[.val (.ref a), .val (.ref b), .val (.int (2 : Int32)), .val (.int (2 : Int32))] [])
    refine Win.st ?_ (fun tq kq => XS.iloadN X115.here hx rfl (hb hby d_prog_18_method_3_2) rfl kq)
    show Win p e below _ T115 (mkF mt 3 #[.val (.ref a), .val (.ref b), .val (.int (2 : Int32)), .val (.int (2 : Int32))] [(.int (2 : Int32))])
    refine Win.st ?_ (fun tq kq => XS.iloadN X115.here hx rfl (hb hby d_prog_18_method_3_3) rfl kq)
    show Win p e below _ T115 (mkF mt 4 #[.val (.ref a), .val (.ref b), .val (.int (2 : Int32)), .val (.int (2 : Int32))] [(.int (2 : Int32)), (.int (2 : Int32))])
    refine Win.st ?_ (fun tq kq => XS.icmpYes X115.here hx rfl (pc0 := 4) (pc' := 29) rfl (hb hby d_prog_18_method_3_4) rfl (flt (Int32.lt_irrefl)).2.1 (by decide) (by decide) kq)
    show Win p e below _ T115 (mkF mt 29 #[.val (.ref a), .val (.ref b), .val (.int (2 : Int32)), .val (.int (2 : Int32))] [])
    exact Win.retV X115 hx hlk e115 hrt (hb hby d_prog_18_method_3_29) (by decide) (by decide) ⟨rfl, N115, K118, by simpa [own_fd, own_fm] using fd115, by simpa [own_fd, own_fm] using fm115, fs115⟩
  · show Win p e below _ s₁ (mkF mt 0 #[.val (.ref a), .val (.ref b), .val (.int (3 : Int32)), .unset] [])
    refine Win.st ?_ (fun tq kq => XS.iconst X0.here hx rfl (hb hby d_prog_18_method_3_0) kq)
    show Win p e below _ s₁ (mkF mt 1 #[.val (.ref a), .val (.ref b), .val (.int (3 : Int32)), .unset] [(.int (0 : Int32))])
    refine Win.st ?_ (fun tq kq => XS.istoreN X0.here hx rfl (hb hby d_prog_18_method_3_1) rfl (l' := #[.val (.ref a), .val (.ref b), .val (.int (3 : Int32)), .val (.int (0 : Int32))]) rfl kq)
    show Win p e below _ s₁ (mkF mt 2 #[.val (.ref a), .val (.ref b), .val (.int (3 : Int32)), .val (.int (0 : Int32))] [])
    refine Win.st ?_ (fun tq kq => XS.iloadN X0.here hx rfl (hb hby d_prog_18_method_3_2) rfl kq)
    show Win p e below _ s₁ (mkF mt 3 #[.val (.ref a), .val (.ref b), .val (.int (3 : Int32)), .val (.int (0 : Int32))] [(.int (0 : Int32))])
    refine Win.st ?_ (fun tq kq => XS.iloadN X0.here hx rfl (hb hby d_prog_18_method_3_3) rfl kq)
    show Win p e below _ s₁ (mkF mt 4 #[.val (.ref a), .val (.ref b), .val (.int (3 : Int32)), .val (.int (0 : Int32))] [(.int (3 : Int32)), (.int (0 : Int32))])
    refine Win.st ?_ (fun tq kq => XS.icmpNo X0.here hx rfl (hb hby d_prog_18_method_3_4) rfl (tlt (by decide : (0 : Int32) < (3 : Int32))).2.1 kq)
    show Win p e below _ s₁ (mkF mt 7 #[.val (.ref a), .val (.ref b), .val (.int (3 : Int32)), .val (.int (0 : Int32))] [])
    refine Win.st ?_ (fun tq kq => XS.aloadN X0.here hx rfl (hb hby d_prog_18_method_3_7) rfl rfl kq)
    show Win p e below _ s₁ (mkF mt 8 #[.val (.ref a), .val (.ref b), .val (.int (3 : Int32)), .val (.int (0 : Int32))] [(.ref a)])
    refine Win.st ?_ (fun tq kq => XS.aloadN X0.here hx rfl (hb hby d_prog_18_method_3_8) rfl rfl kq)
    show Win p e below _ s₁ (mkF mt 9 #[.val (.ref a), .val (.ref b), .val (.int (3 : Int32)), .val (.int (0 : Int32))] [(.ref a), (.ref a)])
    obtain ⟨T119, X119, e119, st119⟩ := getF X0 hx hZ hown (host := "") (Or.inl (hw _ (List.mem_of_getElem? (i := 38) rfl))) Via.refl e0 F3 (g := (mkF mt 9 #[.val (.ref a), .val (.ref b), .val (.int (3 : Int32)), .val (.int (0 : Int32))] [(.ref a), (.ref a)])) rfl rfl (hb hby d_prog_18_method_3_9)
    refine Win.st ?_ st119
    show Win p e below _ T119 (mkF mt 12 #[.val (.ref a), .val (.ref b), .val (.int (3 : Int32)), .val (.int (0 : Int32))] [(.ref t), (.ref a)])
    refine Win.st ?_ (fun tq kq => XS.aloadN X119.here hx rfl (hb hby d_prog_18_method_3_12) rfl rfl kq)
    show Win p e below _ T119 (mkF mt 13 #[.val (.ref a), .val (.ref b), .val (.int (3 : Int32)), .val (.int (0 : Int32))] [(.ref b), (.ref t), (.ref a)])
    refine Win.st ?_ (fun tq kq => XS.iloadN X119.here hx rfl (hb hby d_prog_18_method_3_13) rfl kq)
    show Win p e below _ T119 (mkF mt 14 #[.val (.ref a), .val (.ref b), .val (.int (3 : Int32)), .val (.int (0 : Int32))] [(.int (0 : Int32)), (.ref b), (.ref t), (.ref a)])
    refine Win.st ?_ (own_bald (g := (mkF mt 14 #[.val (.ref a), .val (.ref b), .val (.int (3 : Int32)), .val (.int (0 : Int32))] [(.int (0 : Int32)), (.ref b), (.ref t), (.ref a)])) X119 hx hZ e119 VB (j := (0 : Int32)) (v := (.int (x0.toInt8.toInt32))) (by decide) (by decide) rfl rfl rfl (hb hby d_prog_18_method_3_14))
    show Win p e below _ T119 (mkF mt 15 #[.val (.ref a), .val (.ref b), .val (.int (3 : Int32)), .val (.int (0 : Int32))] [(.int (x0.toInt8.toInt32)), (.ref t), (.ref a)])
    refine Win.st ?_ (fun tq kq => XS.sipush X119.here hx rfl (hb hby d_prog_18_method_3_15) kq)
    show Win p e below _ T119 (mkF mt 18 #[.val (.ref a), .val (.ref b), .val (.int (3 : Int32)), .val (.int (0 : Int32))] [(.int (255 : Int32)), (.int (x0.toInt8.toInt32)), (.ref t), (.ref a)])
    refine Win.st ?_ (fun tq kq => XS.iand X119.here hx rfl (hb hby d_prog_18_method_3_18) rfl kq)
    show Win p e below _ T119 (mkF mt 19 #[.val (.ref a), .val (.ref b), .val (.int (3 : Int32)), .val (.int (0 : Int32))] [(.int ((x0.toInt8.toInt32) &&& (255 : Int32))), (.ref t), (.ref a)])
    rw [own_byte hx0]
    show Win p e below _ T119 (mkF mt 19 #[.val (.ref a), .val (.ref b), .val (.int (3 : Int32)), .val (.int (0 : Int32))] [(.int x0), (.ref t), (.ref a)])
    refine Win.st ?_ (own_bald (g := (mkF mt 19 #[.val (.ref a), .val (.ref b), .val (.int (3 : Int32)), .val (.int (0 : Int32))] [(.int x0), (.ref t), (.ref a)])) X119 hx hZ e119 VT (j := x0) (v := (.int (own_s o c x0))) (own_nlt (by rw [own_i0]; exact hx0.1)) (own_lt (by rw [own_i256]; have := hx0.2; omega)) (own_tab_at ho hc hx0) rfl rfl (hb hby d_prog_18_method_3_19))
    show Win p e below _ T119 (mkF mt 20 #[.val (.ref a), .val (.ref b), .val (.int (3 : Int32)), .val (.int (0 : Int32))] [(.int (own_s o c x0)), (.ref a)])
    obtain ⟨cq120, q120, q120'⟩ := E.cell
    obtain ⟨v120, _, ⟨T120, L120, k120, n120⟩, -, X120, ⟨Lc120, hQ120, l120, y120, z120⟩, st120⟩ := X119.privateBack hx (y := (⟨"com/example/modest_tableau/modesttableau/document/BracketDepth", "step", "(B)V"⟩ : MethodName)) hown (mvT hZ (hw _ (List.mem_of_getElem? (i := 79) rfl))) (mvT hZ (hw _ (List.mem_of_getElem? (i := 80) rfl))) (own_selp (mvT hZ (hw _ (List.mem_of_getElem? (i := 7) rfl))) (Cond.privateMethod_at (mvP hZ (hw _ (List.mem_of_getElem? (i := 81) rfl)) (args := #[]))) (mvT hZ (hw _ (List.mem_of_getElem? (i := 80) rfl))) (by decide)) (Cond.privateMethod_at (mvP hZ (hw _ (List.mem_of_getElem? (i := 81) rfl)) (args := #[]))) (mvT hZ (hw _ (List.mem_of_getElem? (i := 82) rfl))) (by decide) (backOf (W := 0) (rm_step l Z a0 hw [] a (own_s o c x0) d m t h0 n0 Z0 E F1 F2 F3 ga) hZ (hw _ (List.mem_of_getElem? (i := 82) rfl)) (hw _ (List.mem_of_getElem? (i := 8) rfl)) (by decide) (by decide)) (g := (mkF mt 20 #[.val (.ref a), .val (.ref b), .val (.int (3 : Int32)), .val (.int (0 : Int32))] [(.int (own_s o c x0)), (.ref a)])) rfl (by rw [hml]; rfl) (Steps.refl _) (a := a) (by rw [e119]; exact q120) q120' (argsL := [(.int (own_s o c x0))]) (rest := []) (lenOf pd_12 rfl) rfl (by show 2 * 0 + _ ≤ _; exact Nat.le_of_eq rfl) (hb hby d_prog_18_method_3_20) (fun _ _ => ⟨rfl, e119, (by decide : 0 + 0 ≤ _), (by decide : 0 + 0 ≤ _)⟩)
    dsimp only [Pt.U, Pt.locs, Pt.cells, Pt.slots] at X120 l120 y120 z120 st120 hQ120
    subst y120 z120
    replace X120 : Stand p l e _ s mt args below meth cd T120 L120 0 0 := X120
    obtain ⟨h120, e120⟩ : ∃ z, T120.heap = z := ⟨_, rfl⟩
    rw [e120] at hQ120
    obtain ⟨rfl, Nq120, K120, fd120, fm120, fs120⟩ := hQ120
    have N120 : Fr n0 L120 := by rw [l120]; exact Fr.app N0 Nq120
    have f121_219 := E.keep K120
    have f121_220 := VT.keep K120 (ninS nt nin0)
    have f121_221 := VB.keep K120 (ninS nb nin0)
    have Z122 : n0 ≤ h120.size := Nat.le_trans Z0 K120.1
    have K123 : Keep h0 h120 [a] := Keep.trans (Keep.refl h0 [a]) K120 (allS (Or.inl (List.mem_of_getElem? (i := 0) rfl)) all0)
    refine Win.tr ?_ st120
    show Win p e below _ T120 (mkF mt 23 #[.val (.ref a), .val (.ref b), .val (.int (3 : Int32)), .val (.int (0 : Int32))] [])
    refine Win.st ?_ (fun tq kq => XS.iinc X120.here hx rfl (hb hby d_prog_18_method_3_23) rfl (l' := #[.val (.ref a), .val (.ref b), .val (.int (3 : Int32)), .val (.int (1 : Int32))]) rfl kq)
    show Win p e below _ T120 (mkF mt 26 #[.val (.ref a), .val (.ref b), .val (.int (3 : Int32)), .val (.int (1 : Int32))] [])
    refine Win.st ?_ (fun tq kq => XS.goto X120.here hx rfl (pc0 := 26) (pc' := 2) rfl (hb hby d_prog_18_method_3_26) (by decide) (by decide) kq)
    show Win p e below _ T120 (mkF mt 2 #[.val (.ref a), .val (.ref b), .val (.int (3 : Int32)), .val (.int (1 : Int32))] [])
    refine Win.st ?_ (fun tq kq => XS.iloadN X120.here hx rfl (hb hby d_prog_18_method_3_2) rfl kq)
    show Win p e below _ T120 (mkF mt 3 #[.val (.ref a), .val (.ref b), .val (.int (3 : Int32)), .val (.int (1 : Int32))] [(.int (1 : Int32))])
    refine Win.st ?_ (fun tq kq => XS.iloadN X120.here hx rfl (hb hby d_prog_18_method_3_3) rfl kq)
    show Win p e below _ T120 (mkF mt 4 #[.val (.ref a), .val (.ref b), .val (.int (3 : Int32)), .val (.int (1 : Int32))] [(.int (3 : Int32)), (.int (1 : Int32))])
    refine Win.st ?_ (fun tq kq => XS.icmpNo X120.here hx rfl (hb hby d_prog_18_method_3_4) rfl (tlt (by decide : (1 : Int32) < (3 : Int32))).2.1 kq)
    show Win p e below _ T120 (mkF mt 7 #[.val (.ref a), .val (.ref b), .val (.int (3 : Int32)), .val (.int (1 : Int32))] [])
    refine Win.st ?_ (fun tq kq => XS.aloadN X120.here hx rfl (hb hby d_prog_18_method_3_7) rfl rfl kq)
    show Win p e below _ T120 (mkF mt 8 #[.val (.ref a), .val (.ref b), .val (.int (3 : Int32)), .val (.int (1 : Int32))] [(.ref a)])
    refine Win.st ?_ (fun tq kq => XS.aloadN X120.here hx rfl (hb hby d_prog_18_method_3_8) rfl rfl kq)
    show Win p e below _ T120 (mkF mt 9 #[.val (.ref a), .val (.ref b), .val (.int (3 : Int32)), .val (.int (1 : Int32))] [(.ref a), (.ref a)])
    obtain ⟨T124, X124, e124, st124⟩ := getF X120 hx hZ hown (host := "") (Or.inl (hw _ (List.mem_of_getElem? (i := 38) rfl))) Via.refl e120 fs120 (g := (mkF mt 9 #[.val (.ref a), .val (.ref b), .val (.int (3 : Int32)), .val (.int (1 : Int32))] [(.ref a), (.ref a)])) rfl rfl (hb hby d_prog_18_method_3_9)
    refine Win.st ?_ st124
    show Win p e below _ T124 (mkF mt 12 #[.val (.ref a), .val (.ref b), .val (.int (3 : Int32)), .val (.int (1 : Int32))] [(.ref t), (.ref a)])
    refine Win.st ?_ (fun tq kq => XS.aloadN X124.here hx rfl (hb hby d_prog_18_method_3_12) rfl rfl kq)
    show Win p e below _ T124 (mkF mt 13 #[.val (.ref a), .val (.ref b), .val (.int (3 : Int32)), .val (.int (1 : Int32))] [(.ref b), (.ref t), (.ref a)])
    refine Win.st ?_ (fun tq kq => XS.iloadN X124.here hx rfl (hb hby d_prog_18_method_3_13) rfl kq)
    show Win p e below _ T124 (mkF mt 14 #[.val (.ref a), .val (.ref b), .val (.int (3 : Int32)), .val (.int (1 : Int32))] [(.int (1 : Int32)), (.ref b), (.ref t), (.ref a)])
    refine Win.st ?_ (own_bald (g := (mkF mt 14 #[.val (.ref a), .val (.ref b), .val (.int (3 : Int32)), .val (.int (1 : Int32))] [(.int (1 : Int32)), (.ref b), (.ref t), (.ref a)])) X124 hx hZ e124 f121_221 (j := (1 : Int32)) (v := (.int (x1.toInt8.toInt32))) (by decide) (by decide) rfl rfl rfl (hb hby d_prog_18_method_3_14))
    show Win p e below _ T124 (mkF mt 15 #[.val (.ref a), .val (.ref b), .val (.int (3 : Int32)), .val (.int (1 : Int32))] [(.int (x1.toInt8.toInt32)), (.ref t), (.ref a)])
    refine Win.st ?_ (fun tq kq => XS.sipush X124.here hx rfl (hb hby d_prog_18_method_3_15) kq)
    show Win p e below _ T124 (mkF mt 18 #[.val (.ref a), .val (.ref b), .val (.int (3 : Int32)), .val (.int (1 : Int32))] [(.int (255 : Int32)), (.int (x1.toInt8.toInt32)), (.ref t), (.ref a)])
    refine Win.st ?_ (fun tq kq => XS.iand X124.here hx rfl (hb hby d_prog_18_method_3_18) rfl kq)
    show Win p e below _ T124 (mkF mt 19 #[.val (.ref a), .val (.ref b), .val (.int (3 : Int32)), .val (.int (1 : Int32))] [(.int ((x1.toInt8.toInt32) &&& (255 : Int32))), (.ref t), (.ref a)])
    rw [own_byte hx1]
    show Win p e below _ T124 (mkF mt 19 #[.val (.ref a), .val (.ref b), .val (.int (3 : Int32)), .val (.int (1 : Int32))] [(.int x1), (.ref t), (.ref a)])
    refine Win.st ?_ (own_bald (g := (mkF mt 19 #[.val (.ref a), .val (.ref b), .val (.int (3 : Int32)), .val (.int (1 : Int32))] [(.int x1), (.ref t), (.ref a)])) X124 hx hZ e124 f121_220 (j := x1) (v := (.int (own_s o c x1))) (own_nlt (by rw [own_i0]; exact hx1.1)) (own_lt (by rw [own_i256]; have := hx1.2; omega)) (own_tab_at ho hc hx1) rfl rfl (hb hby d_prog_18_method_3_19))
    show Win p e below _ T124 (mkF mt 20 #[.val (.ref a), .val (.ref b), .val (.int (3 : Int32)), .val (.int (1 : Int32))] [(.int (own_s o c x1)), (.ref a)])
    obtain ⟨cq125, q125, q125'⟩ := f121_219.cell
    obtain ⟨v125, _, ⟨T125, L125, k125, n125⟩, -, X125, ⟨Lc125, hQ125, l125, y125, z125⟩, st125⟩ := X124.privateBack hx (y := (⟨"com/example/modest_tableau/modesttableau/document/BracketDepth", "step", "(B)V"⟩ : MethodName)) hown (mvT hZ (hw _ (List.mem_of_getElem? (i := 79) rfl))) (mvT hZ (hw _ (List.mem_of_getElem? (i := 80) rfl))) (own_selp (mvT hZ (hw _ (List.mem_of_getElem? (i := 7) rfl))) (Cond.privateMethod_at (mvP hZ (hw _ (List.mem_of_getElem? (i := 81) rfl)) (args := #[]))) (mvT hZ (hw _ (List.mem_of_getElem? (i := 80) rfl))) (by decide)) (Cond.privateMethod_at (mvP hZ (hw _ (List.mem_of_getElem? (i := 81) rfl)) (args := #[]))) (mvT hZ (hw _ (List.mem_of_getElem? (i := 82) rfl))) (by decide) (backOf (W := 0) (rm_step l Z a0 hw [] a (own_s o c x1) (d + (own_s o c x0)) (own_max m (d + (own_s o c x0))) t h120 n0 Z122 f121_219 fd120 fm120 fs120 ga) hZ (hw _ (List.mem_of_getElem? (i := 82) rfl)) (hw _ (List.mem_of_getElem? (i := 8) rfl)) (by decide) (by decide)) (g := (mkF mt 20 #[.val (.ref a), .val (.ref b), .val (.int (3 : Int32)), .val (.int (1 : Int32))] [(.int (own_s o c x1)), (.ref a)])) rfl (by rw [hml]; rfl) (Steps.refl _) (a := a) (by rw [e124]; exact q125) q125' (argsL := [(.int (own_s o c x1))]) (rest := []) (lenOf pd_12 rfl) rfl (by show 2 * 0 + _ ≤ _; exact Nat.le_of_eq rfl) (hb hby d_prog_18_method_3_20) (fun _ _ => ⟨rfl, e124, (by decide : 0 + 0 ≤ _), (by decide : 0 + 0 ≤ _)⟩)
    dsimp only [Pt.U, Pt.locs, Pt.cells, Pt.slots] at X125 l125 y125 z125 st125 hQ125
    subst y125 z125
    replace X125 : Stand p l e _ s mt args below meth cd T125 L125 0 0 := X125
    obtain ⟨h125, e125⟩ : ∃ z, T125.heap = z := ⟨_, rfl⟩
    rw [e125] at hQ125
    obtain ⟨rfl, Nq125, K125, fd125, fm125, fs125⟩ := hQ125
    have N125 : Fr n0 L125 := by rw [l125]; exact Fr.app N120 Nq125
    have f126_266 := f121_219.keep K125
    have f126_267 := f121_220.keep K125 (ninS nt nin0)
    have f126_268 := f121_221.keep K125 (ninS nb nin0)
    have Z127 : n0 ≤ h125.size := Nat.le_trans Z122 K125.1
    have K128 : Keep h0 h125 [a] := Keep.trans K123 K125 (allS (Or.inl (List.mem_of_getElem? (i := 0) rfl)) all0)
    refine Win.tr ?_ st125
    show Win p e below _ T125 (mkF mt 23 #[.val (.ref a), .val (.ref b), .val (.int (3 : Int32)), .val (.int (1 : Int32))] [])
    refine Win.st ?_ (fun tq kq => XS.iinc X125.here hx rfl (hb hby d_prog_18_method_3_23) rfl (l' := #[.val (.ref a), .val (.ref b), .val (.int (3 : Int32)), .val (.int (2 : Int32))]) rfl kq)
    show Win p e below _ T125 (mkF mt 26 #[.val (.ref a), .val (.ref b), .val (.int (3 : Int32)), .val (.int (2 : Int32))] [])
    refine Win.st ?_ (fun tq kq => XS.goto X125.here hx rfl (pc0 := 26) (pc' := 2) rfl (hb hby d_prog_18_method_3_26) (by decide) (by decide) kq)
    show Win p e below _ T125 (mkF mt 2 #[.val (.ref a), .val (.ref b), .val (.int (3 : Int32)), .val (.int (2 : Int32))] [])
    refine Win.st ?_ (fun tq kq => XS.iloadN X125.here hx rfl (hb hby d_prog_18_method_3_2) rfl kq)
    show Win p e below _ T125 (mkF mt 3 #[.val (.ref a), .val (.ref b), .val (.int (3 : Int32)), .val (.int (2 : Int32))] [(.int (2 : Int32))])
    refine Win.st ?_ (fun tq kq => XS.iloadN X125.here hx rfl (hb hby d_prog_18_method_3_3) rfl kq)
    show Win p e below _ T125 (mkF mt 4 #[.val (.ref a), .val (.ref b), .val (.int (3 : Int32)), .val (.int (2 : Int32))] [(.int (3 : Int32)), (.int (2 : Int32))])
    refine Win.st ?_ (fun tq kq => XS.icmpNo X125.here hx rfl (hb hby d_prog_18_method_3_4) rfl (tlt (by decide : (2 : Int32) < (3 : Int32))).2.1 kq)
    show Win p e below _ T125 (mkF mt 7 #[.val (.ref a), .val (.ref b), .val (.int (3 : Int32)), .val (.int (2 : Int32))] [])
    refine Win.st ?_ (fun tq kq => XS.aloadN X125.here hx rfl (hb hby d_prog_18_method_3_7) rfl rfl kq)
    show Win p e below _ T125 (mkF mt 8 #[.val (.ref a), .val (.ref b), .val (.int (3 : Int32)), .val (.int (2 : Int32))] [(.ref a)])
    refine Win.st ?_ (fun tq kq => XS.aloadN X125.here hx rfl (hb hby d_prog_18_method_3_8) rfl rfl kq)
    show Win p e below _ T125 (mkF mt 9 #[.val (.ref a), .val (.ref b), .val (.int (3 : Int32)), .val (.int (2 : Int32))] [(.ref a), (.ref a)])
    obtain ⟨T129, X129, e129, st129⟩ := getF X125 hx hZ hown (host := "") (Or.inl (hw _ (List.mem_of_getElem? (i := 38) rfl))) Via.refl e125 fs125 (g := (mkF mt 9 #[.val (.ref a), .val (.ref b), .val (.int (3 : Int32)), .val (.int (2 : Int32))] [(.ref a), (.ref a)])) rfl rfl (hb hby d_prog_18_method_3_9)
    refine Win.st ?_ st129
    show Win p e below _ T129 (mkF mt 12 #[.val (.ref a), .val (.ref b), .val (.int (3 : Int32)), .val (.int (2 : Int32))] [(.ref t), (.ref a)])
    refine Win.st ?_ (fun tq kq => XS.aloadN X129.here hx rfl (hb hby d_prog_18_method_3_12) rfl rfl kq)
    show Win p e below _ T129 (mkF mt 13 #[.val (.ref a), .val (.ref b), .val (.int (3 : Int32)), .val (.int (2 : Int32))] [(.ref b), (.ref t), (.ref a)])
    refine Win.st ?_ (fun tq kq => XS.iloadN X129.here hx rfl (hb hby d_prog_18_method_3_13) rfl kq)
    show Win p e below _ T129 (mkF mt 14 #[.val (.ref a), .val (.ref b), .val (.int (3 : Int32)), .val (.int (2 : Int32))] [(.int (2 : Int32)), (.ref b), (.ref t), (.ref a)])
    refine Win.st ?_ (own_bald (g := (mkF mt 14 #[.val (.ref a), .val (.ref b), .val (.int (3 : Int32)), .val (.int (2 : Int32))] [(.int (2 : Int32)), (.ref b), (.ref t), (.ref a)])) X129 hx hZ e129 f126_268 (j := (2 : Int32)) (v := (.int (x2.toInt8.toInt32))) (by decide) (by decide) rfl rfl rfl (hb hby d_prog_18_method_3_14))
    show Win p e below _ T129 (mkF mt 15 #[.val (.ref a), .val (.ref b), .val (.int (3 : Int32)), .val (.int (2 : Int32))] [(.int (x2.toInt8.toInt32)), (.ref t), (.ref a)])
    refine Win.st ?_ (fun tq kq => XS.sipush X129.here hx rfl (hb hby d_prog_18_method_3_15) kq)
    show Win p e below _ T129 (mkF mt 18 #[.val (.ref a), .val (.ref b), .val (.int (3 : Int32)), .val (.int (2 : Int32))] [(.int (255 : Int32)), (.int (x2.toInt8.toInt32)), (.ref t), (.ref a)])
    refine Win.st ?_ (fun tq kq => XS.iand X129.here hx rfl (hb hby d_prog_18_method_3_18) rfl kq)
    show Win p e below _ T129 (mkF mt 19 #[.val (.ref a), .val (.ref b), .val (.int (3 : Int32)), .val (.int (2 : Int32))] [(.int ((x2.toInt8.toInt32) &&& (255 : Int32))), (.ref t), (.ref a)])
    rw [own_byte hx2]
    show Win p e below _ T129 (mkF mt 19 #[.val (.ref a), .val (.ref b), .val (.int (3 : Int32)), .val (.int (2 : Int32))] [(.int x2), (.ref t), (.ref a)])
    refine Win.st ?_ (own_bald (g := (mkF mt 19 #[.val (.ref a), .val (.ref b), .val (.int (3 : Int32)), .val (.int (2 : Int32))] [(.int x2), (.ref t), (.ref a)])) X129 hx hZ e129 f126_267 (j := x2) (v := (.int (own_s o c x2))) (own_nlt (by rw [own_i0]; exact hx2.1)) (own_lt (by rw [own_i256]; have := hx2.2; omega)) (own_tab_at ho hc hx2) rfl rfl (hb hby d_prog_18_method_3_19))
    show Win p e below _ T129 (mkF mt 20 #[.val (.ref a), .val (.ref b), .val (.int (3 : Int32)), .val (.int (2 : Int32))] [(.int (own_s o c x2)), (.ref a)])
    obtain ⟨cq130, q130, q130'⟩ := f126_266.cell
    obtain ⟨v130, _, ⟨T130, L130, k130, n130⟩, -, X130, ⟨Lc130, hQ130, l130, y130, z130⟩, st130⟩ := X129.privateBack hx (y := (⟨"com/example/modest_tableau/modesttableau/document/BracketDepth", "step", "(B)V"⟩ : MethodName)) hown (mvT hZ (hw _ (List.mem_of_getElem? (i := 79) rfl))) (mvT hZ (hw _ (List.mem_of_getElem? (i := 80) rfl))) (own_selp (mvT hZ (hw _ (List.mem_of_getElem? (i := 7) rfl))) (Cond.privateMethod_at (mvP hZ (hw _ (List.mem_of_getElem? (i := 81) rfl)) (args := #[]))) (mvT hZ (hw _ (List.mem_of_getElem? (i := 80) rfl))) (by decide)) (Cond.privateMethod_at (mvP hZ (hw _ (List.mem_of_getElem? (i := 81) rfl)) (args := #[]))) (mvT hZ (hw _ (List.mem_of_getElem? (i := 82) rfl))) (by decide) (backOf (W := 0) (rm_step l Z a0 hw [] a (own_s o c x2) ((d + (own_s o c x0)) + (own_s o c x1)) (own_max (own_max m (d + (own_s o c x0))) ((d + (own_s o c x0)) + (own_s o c x1))) t h125 n0 Z127 f126_266 fd125 fm125 fs125 ga) hZ (hw _ (List.mem_of_getElem? (i := 82) rfl)) (hw _ (List.mem_of_getElem? (i := 8) rfl)) (by decide) (by decide)) (g := (mkF mt 20 #[.val (.ref a), .val (.ref b), .val (.int (3 : Int32)), .val (.int (2 : Int32))] [(.int (own_s o c x2)), (.ref a)])) rfl (by rw [hml]; rfl) (Steps.refl _) (a := a) (by rw [e129]; exact q130) q130' (argsL := [(.int (own_s o c x2))]) (rest := []) (lenOf pd_12 rfl) rfl (by show 2 * 0 + _ ≤ _; exact Nat.le_of_eq rfl) (hb hby d_prog_18_method_3_20) (fun _ _ => ⟨rfl, e129, (by decide : 0 + 0 ≤ _), (by decide : 0 + 0 ≤ _)⟩)
    dsimp only [Pt.U, Pt.locs, Pt.cells, Pt.slots] at X130 l130 y130 z130 st130 hQ130
    subst y130 z130
    replace X130 : Stand p l e _ s mt args below meth cd T130 L130 0 0 := X130
    obtain ⟨h130, e130⟩ : ∃ z, T130.heap = z := ⟨_, rfl⟩
    rw [e130] at hQ130
    obtain ⟨rfl, Nq130, K130, fd130, fm130, fs130⟩ := hQ130
    have N130 : Fr n0 L130 := by rw [l130]; exact Fr.app N125 Nq130
    have f131_313 := f126_266.keep K130
    have f131_314 := f126_267.keep K130 (ninS nt nin0)
    have f131_315 := f126_268.keep K130 (ninS nb nin0)
    have Z132 : n0 ≤ h130.size := Nat.le_trans Z127 K130.1
    have K133 : Keep h0 h130 [a] := Keep.trans K128 K130 (allS (Or.inl (List.mem_of_getElem? (i := 0) rfl)) all0)
    refine Win.tr ?_ st130
    show Win p e below _ T130 (mkF mt 23 #[.val (.ref a), .val (.ref b), .val (.int (3 : Int32)), .val (.int (2 : Int32))] [])
    refine Win.st ?_ (fun tq kq => XS.iinc X130.here hx rfl (hb hby d_prog_18_method_3_23) rfl (l' := #[.val (.ref a), .val (.ref b), .val (.int (3 : Int32)), .val (.int (3 : Int32))]) rfl kq)
    show Win p e below _ T130 (mkF mt 26 #[.val (.ref a), .val (.ref b), .val (.int (3 : Int32)), .val (.int (3 : Int32))] [])
    refine Win.st ?_ (fun tq kq => XS.goto X130.here hx rfl (pc0 := 26) (pc' := 2) rfl (hb hby d_prog_18_method_3_26) (by decide) (by decide) kq)
    show Win p e below _ T130 (mkF mt 2 #[.val (.ref a), .val (.ref b), .val (.int (3 : Int32)), .val (.int (3 : Int32))] [])
    refine Win.st ?_ (fun tq kq => XS.iloadN X130.here hx rfl (hb hby d_prog_18_method_3_2) rfl kq)
    show Win p e below _ T130 (mkF mt 3 #[.val (.ref a), .val (.ref b), .val (.int (3 : Int32)), .val (.int (3 : Int32))] [(.int (3 : Int32))])
    refine Win.st ?_ (fun tq kq => XS.iloadN X130.here hx rfl (hb hby d_prog_18_method_3_3) rfl kq)
    show Win p e below _ T130 (mkF mt 4 #[.val (.ref a), .val (.ref b), .val (.int (3 : Int32)), .val (.int (3 : Int32))] [(.int (3 : Int32)), (.int (3 : Int32))])
    refine Win.st ?_ (fun tq kq => XS.icmpYes X130.here hx rfl (pc0 := 4) (pc' := 29) rfl (hb hby d_prog_18_method_3_4) rfl (flt (Int32.lt_irrefl)).2.1 (by decide) (by decide) kq)
    show Win p e below _ T130 (mkF mt 29 #[.val (.ref a), .val (.ref b), .val (.int (3 : Int32)), .val (.int (3 : Int32))] [])
    exact Win.retV X130 hx hlk e130 hrt (hb hby d_prog_18_method_3_29) (by decide) (by decide) ⟨rfl, N130, K133, by simpa [own_fd, own_fm] using fd130, by simpa [own_fd, own_fm] using fm130, fs130⟩
  · show Win p e below _ s₁ (mkF mt 0 #[.val (.ref a), .val (.ref b), .val (.int (4 : Int32)), .unset] [])
    refine Win.st ?_ (fun tq kq => XS.iconst X0.here hx rfl (hb hby d_prog_18_method_3_0) kq)
    show Win p e below _ s₁ (mkF mt 1 #[.val (.ref a), .val (.ref b), .val (.int (4 : Int32)), .unset] [(.int (0 : Int32))])
    refine Win.st ?_ (fun tq kq => XS.istoreN X0.here hx rfl (hb hby d_prog_18_method_3_1) rfl (l' := #[.val (.ref a), .val (.ref b), .val (.int (4 : Int32)), .val (.int (0 : Int32))]) rfl kq)
    show Win p e below _ s₁ (mkF mt 2 #[.val (.ref a), .val (.ref b), .val (.int (4 : Int32)), .val (.int (0 : Int32))] [])
    refine Win.st ?_ (fun tq kq => XS.iloadN X0.here hx rfl (hb hby d_prog_18_method_3_2) rfl kq)
    show Win p e below _ s₁ (mkF mt 3 #[.val (.ref a), .val (.ref b), .val (.int (4 : Int32)), .val (.int (0 : Int32))] [(.int (0 : Int32))])
    refine Win.st ?_ (fun tq kq => XS.iloadN X0.here hx rfl (hb hby d_prog_18_method_3_3) rfl kq)
    show Win p e below _ s₁ (mkF mt 4 #[.val (.ref a), .val (.ref b), .val (.int (4 : Int32)), .val (.int (0 : Int32))] [(.int (4 : Int32)), (.int (0 : Int32))])
    refine Win.st ?_ (fun tq kq => XS.icmpNo X0.here hx rfl (hb hby d_prog_18_method_3_4) rfl (tlt (by decide : (0 : Int32) < (4 : Int32))).2.1 kq)
    show Win p e below _ s₁ (mkF mt 7 #[.val (.ref a), .val (.ref b), .val (.int (4 : Int32)), .val (.int (0 : Int32))] [])
    refine Win.st ?_ (fun tq kq => XS.aloadN X0.here hx rfl (hb hby d_prog_18_method_3_7) rfl rfl kq)
    show Win p e below _ s₁ (mkF mt 8 #[.val (.ref a), .val (.ref b), .val (.int (4 : Int32)), .val (.int (0 : Int32))] [(.ref a)])
    refine Win.st ?_ (fun tq kq => XS.aloadN X0.here hx rfl (hb hby d_prog_18_method_3_8) rfl rfl kq)
    show Win p e below _ s₁ (mkF mt 9 #[.val (.ref a), .val (.ref b), .val (.int (4 : Int32)), .val (.int (0 : Int32))] [(.ref a), (.ref a)])
    obtain ⟨T134, X134, e134, st134⟩ := getF X0 hx hZ hown (host := "") (Or.inl (hw _ (List.mem_of_getElem? (i := 38) rfl))) Via.refl e0 F3 (g := (mkF mt 9 #[.val (.ref a), .val (.ref b), .val (.int (4 : Int32)), .val (.int (0 : Int32))] [(.ref a), (.ref a)])) rfl rfl (hb hby d_prog_18_method_3_9)
    refine Win.st ?_ st134
    show Win p e below _ T134 (mkF mt 12 #[.val (.ref a), .val (.ref b), .val (.int (4 : Int32)), .val (.int (0 : Int32))] [(.ref t), (.ref a)])
    refine Win.st ?_ (fun tq kq => XS.aloadN X134.here hx rfl (hb hby d_prog_18_method_3_12) rfl rfl kq)
    show Win p e below _ T134 (mkF mt 13 #[.val (.ref a), .val (.ref b), .val (.int (4 : Int32)), .val (.int (0 : Int32))] [(.ref b), (.ref t), (.ref a)])
    refine Win.st ?_ (fun tq kq => XS.iloadN X134.here hx rfl (hb hby d_prog_18_method_3_13) rfl kq)
    show Win p e below _ T134 (mkF mt 14 #[.val (.ref a), .val (.ref b), .val (.int (4 : Int32)), .val (.int (0 : Int32))] [(.int (0 : Int32)), (.ref b), (.ref t), (.ref a)])
    refine Win.st ?_ (own_bald (g := (mkF mt 14 #[.val (.ref a), .val (.ref b), .val (.int (4 : Int32)), .val (.int (0 : Int32))] [(.int (0 : Int32)), (.ref b), (.ref t), (.ref a)])) X134 hx hZ e134 VB (j := (0 : Int32)) (v := (.int (x0.toInt8.toInt32))) (by decide) (by decide) rfl rfl rfl (hb hby d_prog_18_method_3_14))
    show Win p e below _ T134 (mkF mt 15 #[.val (.ref a), .val (.ref b), .val (.int (4 : Int32)), .val (.int (0 : Int32))] [(.int (x0.toInt8.toInt32)), (.ref t), (.ref a)])
    refine Win.st ?_ (fun tq kq => XS.sipush X134.here hx rfl (hb hby d_prog_18_method_3_15) kq)
    show Win p e below _ T134 (mkF mt 18 #[.val (.ref a), .val (.ref b), .val (.int (4 : Int32)), .val (.int (0 : Int32))] [(.int (255 : Int32)), (.int (x0.toInt8.toInt32)), (.ref t), (.ref a)])
    refine Win.st ?_ (fun tq kq => XS.iand X134.here hx rfl (hb hby d_prog_18_method_3_18) rfl kq)
    show Win p e below _ T134 (mkF mt 19 #[.val (.ref a), .val (.ref b), .val (.int (4 : Int32)), .val (.int (0 : Int32))] [(.int ((x0.toInt8.toInt32) &&& (255 : Int32))), (.ref t), (.ref a)])
    rw [own_byte hx0]
    show Win p e below _ T134 (mkF mt 19 #[.val (.ref a), .val (.ref b), .val (.int (4 : Int32)), .val (.int (0 : Int32))] [(.int x0), (.ref t), (.ref a)])
    refine Win.st ?_ (own_bald (g := (mkF mt 19 #[.val (.ref a), .val (.ref b), .val (.int (4 : Int32)), .val (.int (0 : Int32))] [(.int x0), (.ref t), (.ref a)])) X134 hx hZ e134 VT (j := x0) (v := (.int (own_s o c x0))) (own_nlt (by rw [own_i0]; exact hx0.1)) (own_lt (by rw [own_i256]; have := hx0.2; omega)) (own_tab_at ho hc hx0) rfl rfl (hb hby d_prog_18_method_3_19))
    show Win p e below _ T134 (mkF mt 20 #[.val (.ref a), .val (.ref b), .val (.int (4 : Int32)), .val (.int (0 : Int32))] [(.int (own_s o c x0)), (.ref a)])
    obtain ⟨cq135, q135, q135'⟩ := E.cell
    obtain ⟨v135, _, ⟨T135, L135, k135, n135⟩, -, X135, ⟨Lc135, hQ135, l135, y135, z135⟩, st135⟩ := X134.privateBack hx (y := (⟨"com/example/modest_tableau/modesttableau/document/BracketDepth", "step", "(B)V"⟩ : MethodName)) hown (mvT hZ (hw _ (List.mem_of_getElem? (i := 79) rfl))) (mvT hZ (hw _ (List.mem_of_getElem? (i := 80) rfl))) (own_selp (mvT hZ (hw _ (List.mem_of_getElem? (i := 7) rfl))) (Cond.privateMethod_at (mvP hZ (hw _ (List.mem_of_getElem? (i := 81) rfl)) (args := #[]))) (mvT hZ (hw _ (List.mem_of_getElem? (i := 80) rfl))) (by decide)) (Cond.privateMethod_at (mvP hZ (hw _ (List.mem_of_getElem? (i := 81) rfl)) (args := #[]))) (mvT hZ (hw _ (List.mem_of_getElem? (i := 82) rfl))) (by decide) (backOf (W := 0) (rm_step l Z a0 hw [] a (own_s o c x0) d m t h0 n0 Z0 E F1 F2 F3 ga) hZ (hw _ (List.mem_of_getElem? (i := 82) rfl)) (hw _ (List.mem_of_getElem? (i := 8) rfl)) (by decide) (by decide)) (g := (mkF mt 20 #[.val (.ref a), .val (.ref b), .val (.int (4 : Int32)), .val (.int (0 : Int32))] [(.int (own_s o c x0)), (.ref a)])) rfl (by rw [hml]; rfl) (Steps.refl _) (a := a) (by rw [e134]; exact q135) q135' (argsL := [(.int (own_s o c x0))]) (rest := []) (lenOf pd_12 rfl) rfl (by show 2 * 0 + _ ≤ _; exact Nat.le_of_eq rfl) (hb hby d_prog_18_method_3_20) (fun _ _ => ⟨rfl, e134, (by decide : 0 + 0 ≤ _), (by decide : 0 + 0 ≤ _)⟩)
    dsimp only [Pt.U, Pt.locs, Pt.cells, Pt.slots] at X135 l135 y135 z135 st135 hQ135
    subst y135 z135
    replace X135 : Stand p l e _ s mt args below meth cd T135 L135 0 0 := X135
    obtain ⟨h135, e135⟩ : ∃ z, T135.heap = z := ⟨_, rfl⟩
    rw [e135] at hQ135
    obtain ⟨rfl, Nq135, K135, fd135, fm135, fs135⟩ := hQ135
    have N135 : Fr n0 L135 := by rw [l135]; exact Fr.app N0 Nq135
    have f136_372 := E.keep K135
    have f136_373 := VT.keep K135 (ninS nt nin0)
    have f136_374 := VB.keep K135 (ninS nb nin0)
    have Z137 : n0 ≤ h135.size := Nat.le_trans Z0 K135.1
    have K138 : Keep h0 h135 [a] := Keep.trans (Keep.refl h0 [a]) K135 (allS (Or.inl (List.mem_of_getElem? (i := 0) rfl)) all0)
    refine Win.tr ?_ st135
    show Win p e below _ T135 (mkF mt 23 #[.val (.ref a), .val (.ref b), .val (.int (4 : Int32)), .val (.int (0 : Int32))] [])
    refine Win.st ?_ (fun tq kq => XS.iinc X135.here hx rfl (hb hby d_prog_18_method_3_23) rfl (l' := #[.val (.ref a), .val (.ref b), .val (.int (4 : Int32)), .val (.int (1 : Int32))]) rfl kq)
    show Win p e below _ T135 (mkF mt 26 #[.val (.ref a), .val (.ref b), .val (.int (4 : Int32)), .val (.int (1 : Int32))] [])
    refine Win.st ?_ (fun tq kq => XS.goto X135.here hx rfl (pc0 := 26) (pc' := 2) rfl (hb hby d_prog_18_method_3_26) (by decide) (by decide) kq)
    show Win p e below _ T135 (mkF mt 2 #[.val (.ref a), .val (.ref b), .val (.int (4 : Int32)), .val (.int (1 : Int32))] [])
    refine Win.st ?_ (fun tq kq => XS.iloadN X135.here hx rfl (hb hby d_prog_18_method_3_2) rfl kq)
    show Win p e below _ T135 (mkF mt 3 #[.val (.ref a), .val (.ref b), .val (.int (4 : Int32)), .val (.int (1 : Int32))] [(.int (1 : Int32))])
    refine Win.st ?_ (fun tq kq => XS.iloadN X135.here hx rfl (hb hby d_prog_18_method_3_3) rfl kq)
    show Win p e below _ T135 (mkF mt 4 #[.val (.ref a), .val (.ref b), .val (.int (4 : Int32)), .val (.int (1 : Int32))] [(.int (4 : Int32)), (.int (1 : Int32))])
    refine Win.st ?_ (fun tq kq => XS.icmpNo X135.here hx rfl (hb hby d_prog_18_method_3_4) rfl (tlt (by decide : (1 : Int32) < (4 : Int32))).2.1 kq)
    show Win p e below _ T135 (mkF mt 7 #[.val (.ref a), .val (.ref b), .val (.int (4 : Int32)), .val (.int (1 : Int32))] [])
    refine Win.st ?_ (fun tq kq => XS.aloadN X135.here hx rfl (hb hby d_prog_18_method_3_7) rfl rfl kq)
    show Win p e below _ T135 (mkF mt 8 #[.val (.ref a), .val (.ref b), .val (.int (4 : Int32)), .val (.int (1 : Int32))] [(.ref a)])
    refine Win.st ?_ (fun tq kq => XS.aloadN X135.here hx rfl (hb hby d_prog_18_method_3_8) rfl rfl kq)
    show Win p e below _ T135 (mkF mt 9 #[.val (.ref a), .val (.ref b), .val (.int (4 : Int32)), .val (.int (1 : Int32))] [(.ref a), (.ref a)])
    obtain ⟨T139, X139, e139, st139⟩ := getF X135 hx hZ hown (host := "") (Or.inl (hw _ (List.mem_of_getElem? (i := 38) rfl))) Via.refl e135 fs135 (g := (mkF mt 9 #[.val (.ref a), .val (.ref b), .val (.int (4 : Int32)), .val (.int (1 : Int32))] [(.ref a), (.ref a)])) rfl rfl (hb hby d_prog_18_method_3_9)
    refine Win.st ?_ st139
    show Win p e below _ T139 (mkF mt 12 #[.val (.ref a), .val (.ref b), .val (.int (4 : Int32)), .val (.int (1 : Int32))] [(.ref t), (.ref a)])
    refine Win.st ?_ (fun tq kq => XS.aloadN X139.here hx rfl (hb hby d_prog_18_method_3_12) rfl rfl kq)
    show Win p e below _ T139 (mkF mt 13 #[.val (.ref a), .val (.ref b), .val (.int (4 : Int32)), .val (.int (1 : Int32))] [(.ref b), (.ref t), (.ref a)])
    refine Win.st ?_ (fun tq kq => XS.iloadN X139.here hx rfl (hb hby d_prog_18_method_3_13) rfl kq)
    show Win p e below _ T139 (mkF mt 14 #[.val (.ref a), .val (.ref b), .val (.int (4 : Int32)), .val (.int (1 : Int32))] [(.int (1 : Int32)), (.ref b), (.ref t), (.ref a)])
    refine Win.st ?_ (own_bald (g := (mkF mt 14 #[.val (.ref a), .val (.ref b), .val (.int (4 : Int32)), .val (.int (1 : Int32))] [(.int (1 : Int32)), (.ref b), (.ref t), (.ref a)])) X139 hx hZ e139 f136_374 (j := (1 : Int32)) (v := (.int (x1.toInt8.toInt32))) (by decide) (by decide) rfl rfl rfl (hb hby d_prog_18_method_3_14))
    show Win p e below _ T139 (mkF mt 15 #[.val (.ref a), .val (.ref b), .val (.int (4 : Int32)), .val (.int (1 : Int32))] [(.int (x1.toInt8.toInt32)), (.ref t), (.ref a)])
    refine Win.st ?_ (fun tq kq => XS.sipush X139.here hx rfl (hb hby d_prog_18_method_3_15) kq)
    show Win p e below _ T139 (mkF mt 18 #[.val (.ref a), .val (.ref b), .val (.int (4 : Int32)), .val (.int (1 : Int32))] [(.int (255 : Int32)), (.int (x1.toInt8.toInt32)), (.ref t), (.ref a)])
    refine Win.st ?_ (fun tq kq => XS.iand X139.here hx rfl (hb hby d_prog_18_method_3_18) rfl kq)
    show Win p e below _ T139 (mkF mt 19 #[.val (.ref a), .val (.ref b), .val (.int (4 : Int32)), .val (.int (1 : Int32))] [(.int ((x1.toInt8.toInt32) &&& (255 : Int32))), (.ref t), (.ref a)])
    rw [own_byte hx1]
    show Win p e below _ T139 (mkF mt 19 #[.val (.ref a), .val (.ref b), .val (.int (4 : Int32)), .val (.int (1 : Int32))] [(.int x1), (.ref t), (.ref a)])
    refine Win.st ?_ (own_bald (g := (mkF mt 19 #[.val (.ref a), .val (.ref b), .val (.int (4 : Int32)), .val (.int (1 : Int32))] [(.int x1), (.ref t), (.ref a)])) X139 hx hZ e139 f136_373 (j := x1) (v := (.int (own_s o c x1))) (own_nlt (by rw [own_i0]; exact hx1.1)) (own_lt (by rw [own_i256]; have := hx1.2; omega)) (own_tab_at ho hc hx1) rfl rfl (hb hby d_prog_18_method_3_19))
    show Win p e below _ T139 (mkF mt 20 #[.val (.ref a), .val (.ref b), .val (.int (4 : Int32)), .val (.int (1 : Int32))] [(.int (own_s o c x1)), (.ref a)])
    obtain ⟨cq140, q140, q140'⟩ := f136_372.cell
    obtain ⟨v140, _, ⟨T140, L140, k140, n140⟩, -, X140, ⟨Lc140, hQ140, l140, y140, z140⟩, st140⟩ := X139.privateBack hx (y := (⟨"com/example/modest_tableau/modesttableau/document/BracketDepth", "step", "(B)V"⟩ : MethodName)) hown (mvT hZ (hw _ (List.mem_of_getElem? (i := 79) rfl))) (mvT hZ (hw _ (List.mem_of_getElem? (i := 80) rfl))) (own_selp (mvT hZ (hw _ (List.mem_of_getElem? (i := 7) rfl))) (Cond.privateMethod_at (mvP hZ (hw _ (List.mem_of_getElem? (i := 81) rfl)) (args := #[]))) (mvT hZ (hw _ (List.mem_of_getElem? (i := 80) rfl))) (by decide)) (Cond.privateMethod_at (mvP hZ (hw _ (List.mem_of_getElem? (i := 81) rfl)) (args := #[]))) (mvT hZ (hw _ (List.mem_of_getElem? (i := 82) rfl))) (by decide) (backOf (W := 0) (rm_step l Z a0 hw [] a (own_s o c x1) (d + (own_s o c x0)) (own_max m (d + (own_s o c x0))) t h135 n0 Z137 f136_372 fd135 fm135 fs135 ga) hZ (hw _ (List.mem_of_getElem? (i := 82) rfl)) (hw _ (List.mem_of_getElem? (i := 8) rfl)) (by decide) (by decide)) (g := (mkF mt 20 #[.val (.ref a), .val (.ref b), .val (.int (4 : Int32)), .val (.int (1 : Int32))] [(.int (own_s o c x1)), (.ref a)])) rfl (by rw [hml]; rfl) (Steps.refl _) (a := a) (by rw [e139]; exact q140) q140' (argsL := [(.int (own_s o c x1))]) (rest := []) (lenOf pd_12 rfl) rfl (by show 2 * 0 + _ ≤ _; exact Nat.le_of_eq rfl) (hb hby d_prog_18_method_3_20) (fun _ _ => ⟨rfl, e139, (by decide : 0 + 0 ≤ _), (by decide : 0 + 0 ≤ _)⟩)
    dsimp only [Pt.U, Pt.locs, Pt.cells, Pt.slots] at X140 l140 y140 z140 st140 hQ140
    subst y140 z140
    replace X140 : Stand p l e _ s mt args below meth cd T140 L140 0 0 := X140
    obtain ⟨h140, e140⟩ : ∃ z, T140.heap = z := ⟨_, rfl⟩
    rw [e140] at hQ140
    obtain ⟨rfl, Nq140, K140, fd140, fm140, fs140⟩ := hQ140
    have N140 : Fr n0 L140 := by rw [l140]; exact Fr.app N135 Nq140
    have f141_419 := f136_372.keep K140
    have f141_420 := f136_373.keep K140 (ninS nt nin0)
    have f141_421 := f136_374.keep K140 (ninS nb nin0)
    have Z142 : n0 ≤ h140.size := Nat.le_trans Z137 K140.1
    have K143 : Keep h0 h140 [a] := Keep.trans K138 K140 (allS (Or.inl (List.mem_of_getElem? (i := 0) rfl)) all0)
    refine Win.tr ?_ st140
    show Win p e below _ T140 (mkF mt 23 #[.val (.ref a), .val (.ref b), .val (.int (4 : Int32)), .val (.int (1 : Int32))] [])
    refine Win.st ?_ (fun tq kq => XS.iinc X140.here hx rfl (hb hby d_prog_18_method_3_23) rfl (l' := #[.val (.ref a), .val (.ref b), .val (.int (4 : Int32)), .val (.int (2 : Int32))]) rfl kq)
    show Win p e below _ T140 (mkF mt 26 #[.val (.ref a), .val (.ref b), .val (.int (4 : Int32)), .val (.int (2 : Int32))] [])
    refine Win.st ?_ (fun tq kq => XS.goto X140.here hx rfl (pc0 := 26) (pc' := 2) rfl (hb hby d_prog_18_method_3_26) (by decide) (by decide) kq)
    show Win p e below _ T140 (mkF mt 2 #[.val (.ref a), .val (.ref b), .val (.int (4 : Int32)), .val (.int (2 : Int32))] [])
    refine Win.st ?_ (fun tq kq => XS.iloadN X140.here hx rfl (hb hby d_prog_18_method_3_2) rfl kq)
    show Win p e below _ T140 (mkF mt 3 #[.val (.ref a), .val (.ref b), .val (.int (4 : Int32)), .val (.int (2 : Int32))] [(.int (2 : Int32))])
    refine Win.st ?_ (fun tq kq => XS.iloadN X140.here hx rfl (hb hby d_prog_18_method_3_3) rfl kq)
    show Win p e below _ T140 (mkF mt 4 #[.val (.ref a), .val (.ref b), .val (.int (4 : Int32)), .val (.int (2 : Int32))] [(.int (4 : Int32)), (.int (2 : Int32))])
    refine Win.st ?_ (fun tq kq => XS.icmpNo X140.here hx rfl (hb hby d_prog_18_method_3_4) rfl (tlt (by decide : (2 : Int32) < (4 : Int32))).2.1 kq)
    show Win p e below _ T140 (mkF mt 7 #[.val (.ref a), .val (.ref b), .val (.int (4 : Int32)), .val (.int (2 : Int32))] [])
    refine Win.st ?_ (fun tq kq => XS.aloadN X140.here hx rfl (hb hby d_prog_18_method_3_7) rfl rfl kq)
    show Win p e below _ T140 (mkF mt 8 #[.val (.ref a), .val (.ref b), .val (.int (4 : Int32)), .val (.int (2 : Int32))] [(.ref a)])
    refine Win.st ?_ (fun tq kq => XS.aloadN X140.here hx rfl (hb hby d_prog_18_method_3_8) rfl rfl kq)
    show Win p e below _ T140 (mkF mt 9 #[.val (.ref a), .val (.ref b), .val (.int (4 : Int32)), .val (.int (2 : Int32))] [(.ref a), (.ref a)])
    obtain ⟨T144, X144, e144, st144⟩ := getF X140 hx hZ hown (host := "") (Or.inl (hw _ (List.mem_of_getElem? (i := 38) rfl))) Via.refl e140 fs140 (g := (mkF mt 9 #[.val (.ref a), .val (.ref b), .val (.int (4 : Int32)), .val (.int (2 : Int32))] [(.ref a), (.ref a)])) rfl rfl (hb hby d_prog_18_method_3_9)
    refine Win.st ?_ st144
    show Win p e below _ T144 (mkF mt 12 #[.val (.ref a), .val (.ref b), .val (.int (4 : Int32)), .val (.int (2 : Int32))] [(.ref t), (.ref a)])
    refine Win.st ?_ (fun tq kq => XS.aloadN X144.here hx rfl (hb hby d_prog_18_method_3_12) rfl rfl kq)
    show Win p e below _ T144 (mkF mt 13 #[.val (.ref a), .val (.ref b), .val (.int (4 : Int32)), .val (.int (2 : Int32))] [(.ref b), (.ref t), (.ref a)])
    refine Win.st ?_ (fun tq kq => XS.iloadN X144.here hx rfl (hb hby d_prog_18_method_3_13) rfl kq)
    show Win p e below _ T144 (mkF mt 14 #[.val (.ref a), .val (.ref b), .val (.int (4 : Int32)), .val (.int (2 : Int32))] [(.int (2 : Int32)), (.ref b), (.ref t), (.ref a)])
    refine Win.st ?_ (own_bald (g := (mkF mt 14 #[.val (.ref a), .val (.ref b), .val (.int (4 : Int32)), .val (.int (2 : Int32))] [(.int (2 : Int32)), (.ref b), (.ref t), (.ref a)])) X144 hx hZ e144 f141_421 (j := (2 : Int32)) (v := (.int (x2.toInt8.toInt32))) (by decide) (by decide) rfl rfl rfl (hb hby d_prog_18_method_3_14))
    show Win p e below _ T144 (mkF mt 15 #[.val (.ref a), .val (.ref b), .val (.int (4 : Int32)), .val (.int (2 : Int32))] [(.int (x2.toInt8.toInt32)), (.ref t), (.ref a)])
    refine Win.st ?_ (fun tq kq => XS.sipush X144.here hx rfl (hb hby d_prog_18_method_3_15) kq)
    show Win p e below _ T144 (mkF mt 18 #[.val (.ref a), .val (.ref b), .val (.int (4 : Int32)), .val (.int (2 : Int32))] [(.int (255 : Int32)), (.int (x2.toInt8.toInt32)), (.ref t), (.ref a)])
    refine Win.st ?_ (fun tq kq => XS.iand X144.here hx rfl (hb hby d_prog_18_method_3_18) rfl kq)
    show Win p e below _ T144 (mkF mt 19 #[.val (.ref a), .val (.ref b), .val (.int (4 : Int32)), .val (.int (2 : Int32))] [(.int ((x2.toInt8.toInt32) &&& (255 : Int32))), (.ref t), (.ref a)])
    rw [own_byte hx2]
    show Win p e below _ T144 (mkF mt 19 #[.val (.ref a), .val (.ref b), .val (.int (4 : Int32)), .val (.int (2 : Int32))] [(.int x2), (.ref t), (.ref a)])
    refine Win.st ?_ (own_bald (g := (mkF mt 19 #[.val (.ref a), .val (.ref b), .val (.int (4 : Int32)), .val (.int (2 : Int32))] [(.int x2), (.ref t), (.ref a)])) X144 hx hZ e144 f141_420 (j := x2) (v := (.int (own_s o c x2))) (own_nlt (by rw [own_i0]; exact hx2.1)) (own_lt (by rw [own_i256]; have := hx2.2; omega)) (own_tab_at ho hc hx2) rfl rfl (hb hby d_prog_18_method_3_19))
    show Win p e below _ T144 (mkF mt 20 #[.val (.ref a), .val (.ref b), .val (.int (4 : Int32)), .val (.int (2 : Int32))] [(.int (own_s o c x2)), (.ref a)])
    obtain ⟨cq145, q145, q145'⟩ := f141_419.cell
    obtain ⟨v145, _, ⟨T145, L145, k145, n145⟩, -, X145, ⟨Lc145, hQ145, l145, y145, z145⟩, st145⟩ := X144.privateBack hx (y := (⟨"com/example/modest_tableau/modesttableau/document/BracketDepth", "step", "(B)V"⟩ : MethodName)) hown (mvT hZ (hw _ (List.mem_of_getElem? (i := 79) rfl))) (mvT hZ (hw _ (List.mem_of_getElem? (i := 80) rfl))) (own_selp (mvT hZ (hw _ (List.mem_of_getElem? (i := 7) rfl))) (Cond.privateMethod_at (mvP hZ (hw _ (List.mem_of_getElem? (i := 81) rfl)) (args := #[]))) (mvT hZ (hw _ (List.mem_of_getElem? (i := 80) rfl))) (by decide)) (Cond.privateMethod_at (mvP hZ (hw _ (List.mem_of_getElem? (i := 81) rfl)) (args := #[]))) (mvT hZ (hw _ (List.mem_of_getElem? (i := 82) rfl))) (by decide) (backOf (W := 0) (rm_step l Z a0 hw [] a (own_s o c x2) ((d + (own_s o c x0)) + (own_s o c x1)) (own_max (own_max m (d + (own_s o c x0))) ((d + (own_s o c x0)) + (own_s o c x1))) t h140 n0 Z142 f141_419 fd140 fm140 fs140 ga) hZ (hw _ (List.mem_of_getElem? (i := 82) rfl)) (hw _ (List.mem_of_getElem? (i := 8) rfl)) (by decide) (by decide)) (g := (mkF mt 20 #[.val (.ref a), .val (.ref b), .val (.int (4 : Int32)), .val (.int (2 : Int32))] [(.int (own_s o c x2)), (.ref a)])) rfl (by rw [hml]; rfl) (Steps.refl _) (a := a) (by rw [e144]; exact q145) q145' (argsL := [(.int (own_s o c x2))]) (rest := []) (lenOf pd_12 rfl) rfl (by show 2 * 0 + _ ≤ _; exact Nat.le_of_eq rfl) (hb hby d_prog_18_method_3_20) (fun _ _ => ⟨rfl, e144, (by decide : 0 + 0 ≤ _), (by decide : 0 + 0 ≤ _)⟩)
    dsimp only [Pt.U, Pt.locs, Pt.cells, Pt.slots] at X145 l145 y145 z145 st145 hQ145
    subst y145 z145
    replace X145 : Stand p l e _ s mt args below meth cd T145 L145 0 0 := X145
    obtain ⟨h145, e145⟩ : ∃ z, T145.heap = z := ⟨_, rfl⟩
    rw [e145] at hQ145
    obtain ⟨rfl, Nq145, K145, fd145, fm145, fs145⟩ := hQ145
    have N145 : Fr n0 L145 := by rw [l145]; exact Fr.app N140 Nq145
    have f146_466 := f141_419.keep K145
    have f146_467 := f141_420.keep K145 (ninS nt nin0)
    have f146_468 := f141_421.keep K145 (ninS nb nin0)
    have Z147 : n0 ≤ h145.size := Nat.le_trans Z142 K145.1
    have K148 : Keep h0 h145 [a] := Keep.trans K143 K145 (allS (Or.inl (List.mem_of_getElem? (i := 0) rfl)) all0)
    refine Win.tr ?_ st145
    show Win p e below _ T145 (mkF mt 23 #[.val (.ref a), .val (.ref b), .val (.int (4 : Int32)), .val (.int (2 : Int32))] [])
    refine Win.st ?_ (fun tq kq => XS.iinc X145.here hx rfl (hb hby d_prog_18_method_3_23) rfl (l' := #[.val (.ref a), .val (.ref b), .val (.int (4 : Int32)), .val (.int (3 : Int32))]) rfl kq)
    show Win p e below _ T145 (mkF mt 26 #[.val (.ref a), .val (.ref b), .val (.int (4 : Int32)), .val (.int (3 : Int32))] [])
    refine Win.st ?_ (fun tq kq => XS.goto X145.here hx rfl (pc0 := 26) (pc' := 2) rfl (hb hby d_prog_18_method_3_26) (by decide) (by decide) kq)
    show Win p e below _ T145 (mkF mt 2 #[.val (.ref a), .val (.ref b), .val (.int (4 : Int32)), .val (.int (3 : Int32))] [])
    refine Win.st ?_ (fun tq kq => XS.iloadN X145.here hx rfl (hb hby d_prog_18_method_3_2) rfl kq)
    show Win p e below _ T145 (mkF mt 3 #[.val (.ref a), .val (.ref b), .val (.int (4 : Int32)), .val (.int (3 : Int32))] [(.int (3 : Int32))])
    refine Win.st ?_ (fun tq kq => XS.iloadN X145.here hx rfl (hb hby d_prog_18_method_3_3) rfl kq)
    show Win p e below _ T145 (mkF mt 4 #[.val (.ref a), .val (.ref b), .val (.int (4 : Int32)), .val (.int (3 : Int32))] [(.int (4 : Int32)), (.int (3 : Int32))])
    refine Win.st ?_ (fun tq kq => XS.icmpNo X145.here hx rfl (hb hby d_prog_18_method_3_4) rfl (tlt (by decide : (3 : Int32) < (4 : Int32))).2.1 kq)
    show Win p e below _ T145 (mkF mt 7 #[.val (.ref a), .val (.ref b), .val (.int (4 : Int32)), .val (.int (3 : Int32))] [])
    refine Win.st ?_ (fun tq kq => XS.aloadN X145.here hx rfl (hb hby d_prog_18_method_3_7) rfl rfl kq)
    show Win p e below _ T145 (mkF mt 8 #[.val (.ref a), .val (.ref b), .val (.int (4 : Int32)), .val (.int (3 : Int32))] [(.ref a)])
    refine Win.st ?_ (fun tq kq => XS.aloadN X145.here hx rfl (hb hby d_prog_18_method_3_8) rfl rfl kq)
    show Win p e below _ T145 (mkF mt 9 #[.val (.ref a), .val (.ref b), .val (.int (4 : Int32)), .val (.int (3 : Int32))] [(.ref a), (.ref a)])
    obtain ⟨T149, X149, e149, st149⟩ := getF X145 hx hZ hown (host := "") (Or.inl (hw _ (List.mem_of_getElem? (i := 38) rfl))) Via.refl e145 fs145 (g := (mkF mt 9 #[.val (.ref a), .val (.ref b), .val (.int (4 : Int32)), .val (.int (3 : Int32))] [(.ref a), (.ref a)])) rfl rfl (hb hby d_prog_18_method_3_9)
    refine Win.st ?_ st149
    show Win p e below _ T149 (mkF mt 12 #[.val (.ref a), .val (.ref b), .val (.int (4 : Int32)), .val (.int (3 : Int32))] [(.ref t), (.ref a)])
    refine Win.st ?_ (fun tq kq => XS.aloadN X149.here hx rfl (hb hby d_prog_18_method_3_12) rfl rfl kq)
    show Win p e below _ T149 (mkF mt 13 #[.val (.ref a), .val (.ref b), .val (.int (4 : Int32)), .val (.int (3 : Int32))] [(.ref b), (.ref t), (.ref a)])
    refine Win.st ?_ (fun tq kq => XS.iloadN X149.here hx rfl (hb hby d_prog_18_method_3_13) rfl kq)
    show Win p e below _ T149 (mkF mt 14 #[.val (.ref a), .val (.ref b), .val (.int (4 : Int32)), .val (.int (3 : Int32))] [(.int (3 : Int32)), (.ref b), (.ref t), (.ref a)])
    refine Win.st ?_ (own_bald (g := (mkF mt 14 #[.val (.ref a), .val (.ref b), .val (.int (4 : Int32)), .val (.int (3 : Int32))] [(.int (3 : Int32)), (.ref b), (.ref t), (.ref a)])) X149 hx hZ e149 f146_468 (j := (3 : Int32)) (v := (.int (x3.toInt8.toInt32))) (by decide) (by decide) rfl rfl rfl (hb hby d_prog_18_method_3_14))
    show Win p e below _ T149 (mkF mt 15 #[.val (.ref a), .val (.ref b), .val (.int (4 : Int32)), .val (.int (3 : Int32))] [(.int (x3.toInt8.toInt32)), (.ref t), (.ref a)])
    refine Win.st ?_ (fun tq kq => XS.sipush X149.here hx rfl (hb hby d_prog_18_method_3_15) kq)
    show Win p e below _ T149 (mkF mt 18 #[.val (.ref a), .val (.ref b), .val (.int (4 : Int32)), .val (.int (3 : Int32))] [(.int (255 : Int32)), (.int (x3.toInt8.toInt32)), (.ref t), (.ref a)])
    refine Win.st ?_ (fun tq kq => XS.iand X149.here hx rfl (hb hby d_prog_18_method_3_18) rfl kq)
    show Win p e below _ T149 (mkF mt 19 #[.val (.ref a), .val (.ref b), .val (.int (4 : Int32)), .val (.int (3 : Int32))] [(.int ((x3.toInt8.toInt32) &&& (255 : Int32))), (.ref t), (.ref a)])
    rw [own_byte hx3]
    show Win p e below _ T149 (mkF mt 19 #[.val (.ref a), .val (.ref b), .val (.int (4 : Int32)), .val (.int (3 : Int32))] [(.int x3), (.ref t), (.ref a)])
    refine Win.st ?_ (own_bald (g := (mkF mt 19 #[.val (.ref a), .val (.ref b), .val (.int (4 : Int32)), .val (.int (3 : Int32))] [(.int x3), (.ref t), (.ref a)])) X149 hx hZ e149 f146_467 (j := x3) (v := (.int (own_s o c x3))) (own_nlt (by rw [own_i0]; exact hx3.1)) (own_lt (by rw [own_i256]; have := hx3.2; omega)) (own_tab_at ho hc hx3) rfl rfl (hb hby d_prog_18_method_3_19))
    show Win p e below _ T149 (mkF mt 20 #[.val (.ref a), .val (.ref b), .val (.int (4 : Int32)), .val (.int (3 : Int32))] [(.int (own_s o c x3)), (.ref a)])
    obtain ⟨cq150, q150, q150'⟩ := f146_466.cell
    obtain ⟨v150, _, ⟨T150, L150, k150, n150⟩, -, X150, ⟨Lc150, hQ150, l150, y150, z150⟩, st150⟩ := X149.privateBack hx (y := (⟨"com/example/modest_tableau/modesttableau/document/BracketDepth", "step", "(B)V"⟩ : MethodName)) hown (mvT hZ (hw _ (List.mem_of_getElem? (i := 79) rfl))) (mvT hZ (hw _ (List.mem_of_getElem? (i := 80) rfl))) (own_selp (mvT hZ (hw _ (List.mem_of_getElem? (i := 7) rfl))) (Cond.privateMethod_at (mvP hZ (hw _ (List.mem_of_getElem? (i := 81) rfl)) (args := #[]))) (mvT hZ (hw _ (List.mem_of_getElem? (i := 80) rfl))) (by decide)) (Cond.privateMethod_at (mvP hZ (hw _ (List.mem_of_getElem? (i := 81) rfl)) (args := #[]))) (mvT hZ (hw _ (List.mem_of_getElem? (i := 82) rfl))) (by decide) (backOf (W := 0) (rm_step l Z a0 hw [] a (own_s o c x3) (((d + (own_s o c x0)) + (own_s o c x1)) + (own_s o c x2)) (own_max (own_max (own_max m (d + (own_s o c x0))) ((d + (own_s o c x0)) + (own_s o c x1))) (((d + (own_s o c x0)) + (own_s o c x1)) + (own_s o c x2))) t h145 n0 Z147 f146_466 fd145 fm145 fs145 ga) hZ (hw _ (List.mem_of_getElem? (i := 82) rfl)) (hw _ (List.mem_of_getElem? (i := 8) rfl)) (by decide) (by decide)) (g := (mkF mt 20 #[.val (.ref a), .val (.ref b), .val (.int (4 : Int32)), .val (.int (3 : Int32))] [(.int (own_s o c x3)), (.ref a)])) rfl (by rw [hml]; rfl) (Steps.refl _) (a := a) (by rw [e149]; exact q150) q150' (argsL := [(.int (own_s o c x3))]) (rest := []) (lenOf pd_12 rfl) rfl (by show 2 * 0 + _ ≤ _; exact Nat.le_of_eq rfl) (hb hby d_prog_18_method_3_20) (fun _ _ => ⟨rfl, e149, (by decide : 0 + 0 ≤ _), (by decide : 0 + 0 ≤ _)⟩)
    dsimp only [Pt.U, Pt.locs, Pt.cells, Pt.slots] at X150 l150 y150 z150 st150 hQ150
    subst y150 z150
    replace X150 : Stand p l e _ s mt args below meth cd T150 L150 0 0 := X150
    obtain ⟨h150, e150⟩ : ∃ z, T150.heap = z := ⟨_, rfl⟩
    rw [e150] at hQ150
    obtain ⟨rfl, Nq150, K150, fd150, fm150, fs150⟩ := hQ150
    have N150 : Fr n0 L150 := by rw [l150]; exact Fr.app N145 Nq150
    have f151_513 := f146_466.keep K150
    have f151_514 := f146_467.keep K150 (ninS nt nin0)
    have f151_515 := f146_468.keep K150 (ninS nb nin0)
    have Z152 : n0 ≤ h150.size := Nat.le_trans Z147 K150.1
    have K153 : Keep h0 h150 [a] := Keep.trans K148 K150 (allS (Or.inl (List.mem_of_getElem? (i := 0) rfl)) all0)
    refine Win.tr ?_ st150
    show Win p e below _ T150 (mkF mt 23 #[.val (.ref a), .val (.ref b), .val (.int (4 : Int32)), .val (.int (3 : Int32))] [])
    refine Win.st ?_ (fun tq kq => XS.iinc X150.here hx rfl (hb hby d_prog_18_method_3_23) rfl (l' := #[.val (.ref a), .val (.ref b), .val (.int (4 : Int32)), .val (.int (4 : Int32))]) rfl kq)
    show Win p e below _ T150 (mkF mt 26 #[.val (.ref a), .val (.ref b), .val (.int (4 : Int32)), .val (.int (4 : Int32))] [])
    refine Win.st ?_ (fun tq kq => XS.goto X150.here hx rfl (pc0 := 26) (pc' := 2) rfl (hb hby d_prog_18_method_3_26) (by decide) (by decide) kq)
    show Win p e below _ T150 (mkF mt 2 #[.val (.ref a), .val (.ref b), .val (.int (4 : Int32)), .val (.int (4 : Int32))] [])
    refine Win.st ?_ (fun tq kq => XS.iloadN X150.here hx rfl (hb hby d_prog_18_method_3_2) rfl kq)
    show Win p e below _ T150 (mkF mt 3 #[.val (.ref a), .val (.ref b), .val (.int (4 : Int32)), .val (.int (4 : Int32))] [(.int (4 : Int32))])
    refine Win.st ?_ (fun tq kq => XS.iloadN X150.here hx rfl (hb hby d_prog_18_method_3_3) rfl kq)
    show Win p e below _ T150 (mkF mt 4 #[.val (.ref a), .val (.ref b), .val (.int (4 : Int32)), .val (.int (4 : Int32))] [(.int (4 : Int32)), (.int (4 : Int32))])
    refine Win.st ?_ (fun tq kq => XS.icmpYes X150.here hx rfl (pc0 := 4) (pc' := 29) rfl (hb hby d_prog_18_method_3_4) rfl (flt (Int32.lt_irrefl)).2.1 (by decide) (by decide) kq)
    show Win p e below _ T150 (mkF mt 29 #[.val (.ref a), .val (.ref b), .val (.int (4 : Int32)), .val (.int (4 : Int32))] [])
    exact Win.retV X150 hx hlk e150 hrt (hb hby d_prog_18_method_3_29) (by decide) (by decide) ⟨rfl, N150, K153, by simpa [own_fd, own_fm] using fd150, by simpa [own_fd, own_fm] using fm150, fs150⟩
theorem d_prog_18_method_4_0 : decode prog_18_method_4_code 0 = .ok (.aload_n 0, 1) := by decide +kernel
theorem d_prog_18_method_4_1 : decode prog_18_method_4_code 1 = .ok (.getfield 35, 3) := by decide +kernel
theorem d_prog_18_method_4_4 : decode prog_18_method_4_code 4 = .ok (.ireturn, 1) := by decide +kernel
theorem ef_bdd (mt : MethodId) (a : Addr) : entryFrame mt #[(.ref a)] 1 = mkF mt 0 #[.val (.ref a)] [] := by first | (simp [entryFrame, mkF, argsToLocals, Value.category]; done) | rfl
def Q_bdd (Z : State) (a : Addr) (m : Int32) (h0 : Heap) (n0 : Nat) (v : Option Value) (h : Heap) (L : List Loc) : Prop := v = some (.int m) ∧ Fr n0 L ∧ h = h0
set_option maxRecDepth 65536 in
set_option maxHeartbeats 40000000 in
theorem rm_bdd (l : Launch) (Z : State) (a0 : Array Value) (hw : ∀ d ∈ tables_1, d.before a0 Z = true) (ws : List Jvm.Cond) (a : Addr) (m : Int32) (h0 : Heap) (n0 : Nat) (Z0 : n0 ≤ h0.size) (F2 : Fld Z h0 a "com/example/modest_tableau/modesttableau/document/BracketDepth" "deepest" "I" (.int m)) :
    MetFree l (⟨"com/example/modest_tableau/modesttableau/document/BracketDepth", "deepest", "()I"⟩ : MethodName) (head1 (Jvm.Cond.code (⟨"com/example/modest_tableau/modesttableau/document/BracketDepth", "deepest", "()I"⟩ : MethodName) prog_18_method_4_code 1 (some .int) :: ws) ({ frames := 0, cells := 0, slots := 0, locals := 0 } : Room)) (fun aa UU => aa = #[(.ref a)] ∧ Z.Warmed39 UU.vm ∧ UU.heap = h0) (fun _ _ _ _ _ => True) (fun _ UU oo UU' => ∃ vv LL, oo = .returned vv ∧ Q_bdd Z a m h0 n0 vv UU'.heap LL ∧ FrameEnd UU oo UU' LL ({ frames := 0, cells := 0, slots := 0, locals := 0 } : Room).cells ({ frames := 0, cells := 0, slots := 0, locals := 0 } : Room).slots) := by
  refine MetFree.of_bodySF (plainFor_of_name pn_4) hisR ?_
  intro p e s mt args below meth cd s₁ Bd hml0 hP hK
  obtain ⟨hA, hZ, hh⟩ := hP
  have hx := Bd.exec
  have hby := Bd.bytes
  have hml : cd.maxLocals = 1 := hml0
  have hown : s.vm.findClass "com/example/modest_tableau/modesttableau/document/BracketDepth" = some mt.cls := findClass_of_methodNamed Bd.named
  have hnm := (name_of_methodNamed Bd.named Bd.method).1
  have hlk : meth.locks = false := BodyLoose.notSynchronized Bd
  have hrt := Bd.returns
  have X0 : Stand p l e ({ frames := 0, cells := 0, slots := 0, locals := 0 } : Room) s mt args below meth cd s₁ [] 0 0 := Stand.of_body Bd
  have e0 : s₁.heap = h0 := by rw [← hh, Bd.state]; rfl
  have N0 := Fr.nil n0
  show Win p e below (Ends s (Q_bdd Z a m h0 n0) ({ frames := 0, cells := 0, slots := 0, locals := 0 } : Room).cells ({ frames := 0, cells := 0, slots := 0, locals := 0 } : Room).slots) s₁ (entryFrame mt args 1)
  rw [hA, ef_bdd]
  refine Win.st ?_ (fun tq kq => XS.aloadN X0.here hx rfl (hb hby d_prog_18_method_4_0) rfl rfl kq)
  show Win p e below _ s₁ (mkF mt 1 #[.val (.ref a)] [(.ref a)])
  obtain ⟨T154, X154, e154, st154⟩ := getF X0 hx hZ hown (host := "") (Or.inl (hw _ (List.mem_of_getElem? (i := 85) rfl))) Via.refl e0 F2 (g := (mkF mt 1 #[.val (.ref a)] [(.ref a)])) rfl rfl (hb hby d_prog_18_method_4_1)
  refine Win.st ?_ st154
  show Win p e below _ T154 (mkF mt 4 #[.val (.ref a)] [(.int m)])
  exact Win.ret X154 hx hlk e154 hrt rfl (Or.inl ⟨rfl, Or.inl rfl, _, rfl⟩) (hb hby d_prog_18_method_4_4) (by decide) (by decide) ⟨rfl, N0, rfl⟩
theorem d_method_4_0 : decode method_4_code 0 = .ok (.iload_n 2, 1) := by decide +kernel
theorem d_method_4_1 : decode method_4_code 1 = .ok (.ifCond .ne 4, 3) := by decide +kernel
theorem d_method_4_4 : decode method_4_code 4 = .ok (.return_, 1) := by decide +kernel
theorem d_method_4_5 : decode method_4_code 5 = .ok (.iconst 0, 1) := by decide +kernel
theorem d_method_4_6 : decode method_4_code 6 = .ok (.istore 5, 2) := by decide +kernel
theorem d_method_4_8 : decode method_4_code 8 = .ok (.iload_n 1, 1) := by decide +kernel
theorem d_method_4_9 : decode method_4_code 9 = .ok (.iload 4, 2) := by decide +kernel
theorem d_method_4_11 : decode method_4_code 11 = .ok (.if_icmp .ne 9, 3) := by decide +kernel
theorem d_method_4_14 : decode method_4_code 14 = .ok (.iconst (-1), 1) := by decide +kernel
theorem d_method_4_15 : decode method_4_code 15 = .ok (.istore 5, 2) := by decide +kernel
theorem d_method_4_17 : decode method_4_code 17 = .ok (.goto 11, 3) := by decide +kernel
theorem d_method_4_28 : decode method_4_code 28 = .ok (.aload_n 0, 1) := by decide +kernel
theorem d_method_4_29 : decode method_4_code 29 = .ok (.iconst 0, 1) := by decide +kernel
theorem d_method_4_30 : decode method_4_code 30 = .ok (.aload_n 0, 1) := by decide +kernel
theorem d_method_4_31 : decode method_4_code 31 = .ok (.iconst 0, 1) := by decide +kernel
theorem d_method_4_32 : decode method_4_code 32 = .ok (.iaload, 1) := by decide +kernel
theorem d_method_4_33 : decode method_4_code 33 = .ok (.iload 5, 2) := by decide +kernel
theorem d_method_4_35 : decode method_4_code 35 = .ok (.iadd, 1) := by decide +kernel
theorem d_method_4_36 : decode method_4_code 36 = .ok (.iastore, 1) := by decide +kernel
theorem d_method_4_37 : decode method_4_code 37 = .ok (.aload_n 0, 1) := by decide +kernel
theorem d_method_4_38 : decode method_4_code 38 = .ok (.iconst 0, 1) := by decide +kernel
theorem d_method_4_39 : decode method_4_code 39 = .ok (.iaload, 1) := by decide +kernel
theorem d_method_4_40 : decode method_4_code 40 = .ok (.aload_n 0, 1) := by decide +kernel
theorem d_method_4_41 : decode method_4_code 41 = .ok (.iconst 1, 1) := by decide +kernel
theorem d_method_4_42 : decode method_4_code 42 = .ok (.iaload, 1) := by decide +kernel
theorem d_method_4_43 : decode method_4_code 43 = .ok (.if_icmp .le 9, 3) := by decide +kernel
theorem d_method_4_46 : decode method_4_code 46 = .ok (.aload_n 0, 1) := by decide +kernel
theorem d_method_4_47 : decode method_4_code 47 = .ok (.iconst 1, 1) := by decide +kernel
theorem d_method_4_48 : decode method_4_code 48 = .ok (.aload_n 0, 1) := by decide +kernel
theorem d_method_4_49 : decode method_4_code 49 = .ok (.iconst 0, 1) := by decide +kernel
theorem d_method_4_50 : decode method_4_code 50 = .ok (.iaload, 1) := by decide +kernel
theorem d_method_4_51 : decode method_4_code 51 = .ok (.iastore, 1) := by decide +kernel
theorem d_method_4_52 : decode method_4_code 52 = .ok (.return_, 1) := by decide +kernel
theorem d_method_4_20 : decode method_4_code 20 = .ok (.iload_n 1, 1) := by decide +kernel
theorem d_method_4_21 : decode method_4_code 21 = .ok (.iload_n 3, 1) := by decide +kernel
theorem d_method_4_22 : decode method_4_code 22 = .ok (.if_icmp .ne 6, 3) := by decide +kernel
theorem d_method_4_25 : decode method_4_code 25 = .ok (.iconst 1, 1) := by decide +kernel
theorem d_method_4_26 : decode method_4_code 26 = .ok (.istore 5, 2) := by decide +kernel
theorem ef_feed (mt : MethodId) (a : Addr) (x : Int32) (on : Int32) (o : Int32) (c : Int32) : entryFrame mt #[(.ref a), (.int x), (.int on), (.int o), (.int c)] 6 = mkF mt 0 #[.val (.ref a), .val (.int x), .val (.int on), .val (.int o), .val (.int c), .unset] [] := by first | (simp [entryFrame, mkF, argsToLocals, Value.category]; done) | rfl
def Q_feed (Z : State) (a : Addr) (x : Int32) (on : Int32) (o : Int32) (c : Int32) (n_ : Int32) (k_ : Int32) (d : Int32) (m : Int32) (ka : ClassId) (h0 : Heap) (n0 : Nat) (v : Option Value) (h : Heap) (L : List Loc) : Prop := v = none ∧ Fr n0 L ∧ Keep h0 h [a] ∧ Arv Z h a ka .int (2 : Int32) [(.int (own_fd n_ k_ d (own_s o c x))), (.int (own_fm n_ k_ d m (own_s o c x)))] (.int (0 : Int32))
set_option maxRecDepth 65536 in
set_option maxHeartbeats 40000000 in
theorem rm_feed (l : Launch) (Z : State) (a0 : Array Value) (hw : ∀ d ∈ tables_1, d.before a0 Z = true) (ws : List Jvm.Cond) (a : Addr) (x : Int32) (on : Int32) (o : Int32) (c : Int32) (n_ : Int32) (k_ : Int32) (d : Int32) (m : Int32) (ka : ClassId) (h0 : Heap) (n0 : Nat) (Z0 : n0 ≤ h0.size) (V : Arv Z h0 a ka .int (2 : Int32) [(.int d), (.int m)] (.int (0 : Int32))) (ga : n0 ≤ a) (hon : on = if k_ < n_ then (1 : Int32) else 0) :
    MetFree l (⟨"com/example/modest_tableau/modesttableau/document/BracketDepthAddPinLaw", "feed", "([IIZII)V"⟩ : MethodName) (head1 (Jvm.Cond.code (⟨"com/example/modest_tableau/modesttableau/document/BracketDepthAddPinLaw", "feed", "([IIZII)V"⟩ : MethodName) method_4_code 6 none :: ws) ({ frames := 0, cells := 0, slots := 0, locals := 0 } : Room)) (fun aa UU => aa = #[(.ref a), (.int x), (.int on), (.int o), (.int c)] ∧ Z.Warmed39 UU.vm ∧ UU.heap = h0) (fun _ _ _ _ _ => True) (fun _ UU oo UU' => ∃ vv LL, oo = .returned vv ∧ Q_feed Z a x on o c n_ k_ d m ka h0 n0 vv UU'.heap LL ∧ FrameEnd UU oo UU' LL ({ frames := 0, cells := 0, slots := 0, locals := 0 } : Room).cells ({ frames := 0, cells := 0, slots := 0, locals := 0 } : Room).slots) := by
  refine MetFree.of_bodySF (plainFor_of_name pn_0) hisR ?_
  intro p e s mt args below meth cd s₁ Bd hml0 hP hK
  obtain ⟨hA, hZ, hh⟩ := hP
  have hx := Bd.exec
  have hby := Bd.bytes
  have hml : cd.maxLocals = 6 := hml0
  have hown : s.vm.findClass "com/example/modest_tableau/modesttableau/document/BracketDepthAddPinLaw" = some mt.cls := findClass_of_methodNamed Bd.named
  have hnm := (name_of_methodNamed Bd.named Bd.method).1
  have hlk : meth.locks = false := BodyLoose.notSynchronized Bd
  have hrt := Bd.returns
  have X0 : Stand p l e ({ frames := 0, cells := 0, slots := 0, locals := 0 } : Room) s mt args below meth cd s₁ [] 0 0 := Stand.of_body Bd
  have e0 : s₁.heap = h0 := by rw [← hh, Bd.state]; rfl
  have N0 := Fr.nil n0
  show Win p e below (Ends s (Q_feed Z a x on o c n_ k_ d m ka h0 n0) ({ frames := 0, cells := 0, slots := 0, locals := 0 } : Room).cells ({ frames := 0, cells := 0, slots := 0, locals := 0 } : Room).slots) s₁ (entryFrame mt args 6)
  rw [hA, ef_feed]
  refine Win.st ?_ (fun tq kq => XS.iloadN X0.here hx rfl (hb hby d_method_4_0) rfl kq)
  show Win p e below _ s₁ (mkF mt 1 #[.val (.ref a), .val (.int x), .val (.int on), .val (.int o), .val (.int c), .unset] [(.int on)])
  by_cases hc1 : on = (0 : Int32)
  · refine Win.st ?_ (fun tq kq => XS.ifNo X0.here hx rfl (hb hby d_method_4_1) rfl ((if0 _ _).trans (teq hc1).2) kq)
    show Win p e below _ s₁ (mkF mt 4 #[.val (.ref a), .val (.int x), .val (.int on), .val (.int o), .val (.int c), .unset] [])
    exact Win.retV X0 hx hlk e0 hrt (hb hby d_method_4_4) (by decide) (by decide) ⟨rfl, N0, (Keep.refl h0 [a]), by
      have q : ¬ k_ < n_ := fun z => by rw [if_pos z, hc1] at hon; exact absurd hon (by decide)
      simp only [own_fd, own_fm, if_neg q]; exact V⟩
  · refine Win.st ?_ (fun tq kq => XS.ifYes X0.here hx rfl (pc0 := 1) (pc' := 5) rfl (hb hby d_method_4_1) rfl ((if0 _ _).trans (feq hc1).2) (by decide) (by decide) kq)
    show Win p e below _ s₁ (mkF mt 5 #[.val (.ref a), .val (.int x), .val (.int on), .val (.int o), .val (.int c), .unset] [])
    refine Win.st ?_ (fun tq kq => XS.iconst X0.here hx rfl (hb hby d_method_4_5) kq)
    show Win p e below _ s₁ (mkF mt 6 #[.val (.ref a), .val (.int x), .val (.int on), .val (.int o), .val (.int c), .unset] [(.int (0 : Int32))])
    refine Win.st ?_ (fun tq kq => XS.istore X0.here hx rfl (hb hby d_method_4_6) rfl (l' := #[.val (.ref a), .val (.int x), .val (.int on), .val (.int o), .val (.int c), .val (.int (0 : Int32))]) rfl kq)
    show Win p e below _ s₁ (mkF mt 8 #[.val (.ref a), .val (.int x), .val (.int on), .val (.int o), .val (.int c), .val (.int (0 : Int32))] [])
    refine Win.st ?_ (fun tq kq => XS.iloadN X0.here hx rfl (hb hby d_method_4_8) rfl kq)
    show Win p e below _ s₁ (mkF mt 9 #[.val (.ref a), .val (.int x), .val (.int on), .val (.int o), .val (.int c), .val (.int (0 : Int32))] [(.int x)])
    refine Win.st ?_ (fun tq kq => XS.iload X0.here hx rfl (hb hby d_method_4_9) rfl kq)
    show Win p e below _ s₁ (mkF mt 11 #[.val (.ref a), .val (.int x), .val (.int on), .val (.int o), .val (.int c), .val (.int (0 : Int32))] [(.int c), (.int x)])
    by_cases hc11 : x = c
    · refine Win.st ?_ (fun tq kq => XS.icmpNo X0.here hx rfl (hb hby d_method_4_11) rfl (teq hc11).2 kq)
      show Win p e below _ s₁ (mkF mt 14 #[.val (.ref a), .val (.int x), .val (.int on), .val (.int o), .val (.int c), .val (.int (0 : Int32))] [])
      refine Win.st ?_ (fun tq kq => XS.iconst X0.here hx rfl (hb hby d_method_4_14) kq)
      show Win p e below _ s₁ (mkF mt 15 #[.val (.ref a), .val (.int x), .val (.int on), .val (.int o), .val (.int c), .val (.int (0 : Int32))] [(.int (-1 : Int32))])
      refine Win.st ?_ (fun tq kq => XS.istore X0.here hx rfl (hb hby d_method_4_15) rfl (l' := #[.val (.ref a), .val (.int x), .val (.int on), .val (.int o), .val (.int c), .val (.int (-1 : Int32))]) rfl kq)
      show Win p e below _ s₁ (mkF mt 17 #[.val (.ref a), .val (.int x), .val (.int on), .val (.int o), .val (.int c), .val (.int (-1 : Int32))] [])
      refine Win.st ?_ (fun tq kq => XS.goto X0.here hx rfl (pc0 := 17) (pc' := 28) rfl (hb hby d_method_4_17) (by decide) (by decide) kq)
      show Win p e below _ s₁ (mkF mt 28 #[.val (.ref a), .val (.int x), .val (.int on), .val (.int o), .val (.int c), .val (.int (-1 : Int32))] [])
      refine Win.st ?_ (fun tq kq => XS.aloadN X0.here hx rfl (hb hby d_method_4_28) rfl rfl kq)
      show Win p e below _ s₁ (mkF mt 29 #[.val (.ref a), .val (.int x), .val (.int on), .val (.int o), .val (.int c), .val (.int (-1 : Int32))] [(.ref a)])
      refine Win.st ?_ (fun tq kq => XS.iconst X0.here hx rfl (hb hby d_method_4_29) kq)
      show Win p e below _ s₁ (mkF mt 30 #[.val (.ref a), .val (.int x), .val (.int on), .val (.int o), .val (.int c), .val (.int (-1 : Int32))] [(.int (0 : Int32)), (.ref a)])
      refine Win.st ?_ (fun tq kq => XS.aloadN X0.here hx rfl (hb hby d_method_4_30) rfl rfl kq)
      show Win p e below _ s₁ (mkF mt 31 #[.val (.ref a), .val (.int x), .val (.int on), .val (.int o), .val (.int c), .val (.int (-1 : Int32))] [(.ref a), (.int (0 : Int32)), (.ref a)])
      refine Win.st ?_ (fun tq kq => XS.iconst X0.here hx rfl (hb hby d_method_4_31) kq)
      show Win p e below _ s₁ (mkF mt 32 #[.val (.ref a), .val (.int x), .val (.int on), .val (.int o), .val (.int c), .val (.int (-1 : Int32))] [(.int (0 : Int32)), (.ref a), (.int (0 : Int32)), (.ref a)])
      refine Win.st ?_ (own_iald (g := (mkF mt 32 #[.val (.ref a), .val (.int x), .val (.int on), .val (.int o), .val (.int c), .val (.int (-1 : Int32))] [(.int (0 : Int32)), (.ref a), (.int (0 : Int32)), (.ref a)])) X0 hx hZ e0 V (j := (0 : Int32)) (v := (.int d)) (by decide) (by decide) rfl rfl rfl (hb hby d_method_4_32))
      show Win p e below _ s₁ (mkF mt 33 #[.val (.ref a), .val (.int x), .val (.int on), .val (.int o), .val (.int c), .val (.int (-1 : Int32))] [(.int d), (.int (0 : Int32)), (.ref a)])
      refine Win.st ?_ (fun tq kq => XS.iload X0.here hx rfl (hb hby d_method_4_33) rfl kq)
      show Win p e below _ s₁ (mkF mt 35 #[.val (.ref a), .val (.int x), .val (.int on), .val (.int o), .val (.int c), .val (.int (-1 : Int32))] [(.int (-1 : Int32)), (.int d), (.int (0 : Int32)), (.ref a)])
      refine Win.st ?_ (fun tq kq => XS.iadd X0.here hx rfl (hb hby d_method_4_35) rfl kq)
      show Win p e below _ s₁ (mkF mt 36 #[.val (.ref a), .val (.int x), .val (.int on), .val (.int o), .val (.int c), .val (.int (-1 : Int32))] [(.int (d + (-1 : Int32))), (.int (0 : Int32)), (.ref a)])
      obtain ⟨T155, h155, L155, X155, N155, e155, kp155, V155, st155⟩ := own_iast (g := (mkF mt 36 #[.val (.ref a), .val (.int x), .val (.int on), .val (.int o), .val (.int c), .val (.int (-1 : Int32))] [(.int (d + (-1 : Int32))), (.int (0 : Int32)), (.ref a)])) X0 hx hZ e0 N0 ga V (j := (0 : Int32)) (by decide) (by decide) (i := 0) rfl (by simp) rfl rfl (hb hby d_method_4_36)
      replace V155 : Arv Z h155 a ka .int (2 : Int32) ([(.int (d + (-1 : Int32))), (.int m)]) (.int (0 : Int32)) := V155
      have Z157 : n0 ≤ h155.size := Nat.le_trans Z0 kp155.1
      have K158 : Keep h0 h155 [a] := Keep.trans (Keep.refl h0 [a]) kp155 (allS (Or.inl (List.mem_of_getElem? (i := 0) rfl)) all0)
      refine Win.st ?_ st155
      show Win p e below _ T155 (mkF mt 37 #[.val (.ref a), .val (.int x), .val (.int on), .val (.int o), .val (.int c), .val (.int (-1 : Int32))] [])
      refine Win.st ?_ (fun tq kq => XS.aloadN X155.here hx rfl (hb hby d_method_4_37) rfl rfl kq)
      show Win p e below _ T155 (mkF mt 38 #[.val (.ref a), .val (.int x), .val (.int on), .val (.int o), .val (.int c), .val (.int (-1 : Int32))] [(.ref a)])
      refine Win.st ?_ (fun tq kq => XS.iconst X155.here hx rfl (hb hby d_method_4_38) kq)
      show Win p e below _ T155 (mkF mt 39 #[.val (.ref a), .val (.int x), .val (.int on), .val (.int o), .val (.int c), .val (.int (-1 : Int32))] [(.int (0 : Int32)), (.ref a)])
      refine Win.st ?_ (own_iald (g := (mkF mt 39 #[.val (.ref a), .val (.int x), .val (.int on), .val (.int o), .val (.int c), .val (.int (-1 : Int32))] [(.int (0 : Int32)), (.ref a)])) X155 hx hZ e155 V155 (j := (0 : Int32)) (v := (.int (d + (-1 : Int32)))) (by decide) (by decide) rfl rfl rfl (hb hby d_method_4_39))
      show Win p e below _ T155 (mkF mt 40 #[.val (.ref a), .val (.int x), .val (.int on), .val (.int o), .val (.int c), .val (.int (-1 : Int32))] [(.int (d + (-1 : Int32)))])
      refine Win.st ?_ (fun tq kq => XS.aloadN X155.here hx rfl (hb hby d_method_4_40) rfl rfl kq)
      show Win p e below _ T155 (mkF mt 41 #[.val (.ref a), .val (.int x), .val (.int on), .val (.int o), .val (.int c), .val (.int (-1 : Int32))] [(.ref a), (.int (d + (-1 : Int32)))])
      refine Win.st ?_ (fun tq kq => XS.iconst X155.here hx rfl (hb hby d_method_4_41) kq)
      show Win p e below _ T155 (mkF mt 42 #[.val (.ref a), .val (.int x), .val (.int on), .val (.int o), .val (.int c), .val (.int (-1 : Int32))] [(.int (1 : Int32)), (.ref a), (.int (d + (-1 : Int32)))])
      refine Win.st ?_ (own_iald (g := (mkF mt 42 #[.val (.ref a), .val (.int x), .val (.int on), .val (.int o), .val (.int c), .val (.int (-1 : Int32))] [(.int (1 : Int32)), (.ref a), (.int (d + (-1 : Int32)))])) X155 hx hZ e155 V155 (j := (1 : Int32)) (v := (.int m)) (by decide) (by decide) rfl rfl rfl (hb hby d_method_4_42))
      show Win p e below _ T155 (mkF mt 43 #[.val (.ref a), .val (.int x), .val (.int on), .val (.int o), .val (.int c), .val (.int (-1 : Int32))] [(.int m), (.int (d + (-1 : Int32)))])
      by_cases hc43 : m < (d + (-1 : Int32))
      · refine Win.st ?_ (fun tq kq => XS.icmpNo X155.here hx rfl (hb hby d_method_4_43) rfl (tlt hc43).2.2.2 kq)
        show Win p e below _ T155 (mkF mt 46 #[.val (.ref a), .val (.int x), .val (.int on), .val (.int o), .val (.int c), .val (.int (-1 : Int32))] [])
        refine Win.st ?_ (fun tq kq => XS.aloadN X155.here hx rfl (hb hby d_method_4_46) rfl rfl kq)
        show Win p e below _ T155 (mkF mt 47 #[.val (.ref a), .val (.int x), .val (.int on), .val (.int o), .val (.int c), .val (.int (-1 : Int32))] [(.ref a)])
        refine Win.st ?_ (fun tq kq => XS.iconst X155.here hx rfl (hb hby d_method_4_47) kq)
        show Win p e below _ T155 (mkF mt 48 #[.val (.ref a), .val (.int x), .val (.int on), .val (.int o), .val (.int c), .val (.int (-1 : Int32))] [(.int (1 : Int32)), (.ref a)])
        refine Win.st ?_ (fun tq kq => XS.aloadN X155.here hx rfl (hb hby d_method_4_48) rfl rfl kq)
        show Win p e below _ T155 (mkF mt 49 #[.val (.ref a), .val (.int x), .val (.int on), .val (.int o), .val (.int c), .val (.int (-1 : Int32))] [(.ref a), (.int (1 : Int32)), (.ref a)])
        refine Win.st ?_ (fun tq kq => XS.iconst X155.here hx rfl (hb hby d_method_4_49) kq)
        show Win p e below _ T155 (mkF mt 50 #[.val (.ref a), .val (.int x), .val (.int on), .val (.int o), .val (.int c), .val (.int (-1 : Int32))] [(.int (0 : Int32)), (.ref a), (.int (1 : Int32)), (.ref a)])
        refine Win.st ?_ (own_iald (g := (mkF mt 50 #[.val (.ref a), .val (.int x), .val (.int on), .val (.int o), .val (.int c), .val (.int (-1 : Int32))] [(.int (0 : Int32)), (.ref a), (.int (1 : Int32)), (.ref a)])) X155 hx hZ e155 V155 (j := (0 : Int32)) (v := (.int (d + (-1 : Int32)))) (by decide) (by decide) rfl rfl rfl (hb hby d_method_4_50))
        show Win p e below _ T155 (mkF mt 51 #[.val (.ref a), .val (.int x), .val (.int on), .val (.int o), .val (.int c), .val (.int (-1 : Int32))] [(.int (d + (-1 : Int32))), (.int (1 : Int32)), (.ref a)])
        obtain ⟨T159, h159, L159, X159, N159, e159, kp159, V159, st159⟩ := own_iast (g := (mkF mt 51 #[.val (.ref a), .val (.int x), .val (.int on), .val (.int o), .val (.int c), .val (.int (-1 : Int32))] [(.int (d + (-1 : Int32))), (.int (1 : Int32)), (.ref a)])) X155 hx hZ e155 N155 ga V155 (j := (1 : Int32)) (by decide) (by decide) (i := 1) rfl (by simp) rfl rfl (hb hby d_method_4_51)
        replace V159 : Arv Z h159 a ka .int (2 : Int32) ([(.int (d + (-1 : Int32))), (.int (d + (-1 : Int32)))]) (.int (0 : Int32)) := V159
        have Z161 : n0 ≤ h159.size := Nat.le_trans Z157 kp159.1
        have K162 : Keep h0 h159 [a] := Keep.trans K158 kp159 (allS (Or.inl (List.mem_of_getElem? (i := 0) rfl)) all0)
        refine Win.st ?_ st159
        show Win p e below _ T159 (mkF mt 52 #[.val (.ref a), .val (.int x), .val (.int on), .val (.int o), .val (.int c), .val (.int (-1 : Int32))] [])
        exact Win.retV X159 hx hlk e159 hrt (hb hby d_method_4_52) (by decide) (by decide) ⟨rfl, N159, K162, by
          have q : k_ < n_ := Classical.byContradiction fun z => hc1 (by rw [hon, if_neg z])
          have hs : own_s o c x = (-1 : Int32) := by rw [own_s, if_pos hc11]
          simp only [own_fd, own_fm, if_pos q, hs, own_max, hc43, if_true, if_false]; exact V159⟩
      · refine Win.st ?_ (fun tq kq => XS.icmpYes X155.here hx rfl (pc0 := 43) (pc' := 52) rfl (hb hby d_method_4_43) rfl (flt hc43).2.2.2 (by decide) (by decide) kq)
        show Win p e below _ T155 (mkF mt 52 #[.val (.ref a), .val (.int x), .val (.int on), .val (.int o), .val (.int c), .val (.int (-1 : Int32))] [])
        exact Win.retV X155 hx hlk e155 hrt (hb hby d_method_4_52) (by decide) (by decide) ⟨rfl, N155, K158, by
          have q : k_ < n_ := Classical.byContradiction fun z => hc1 (by rw [hon, if_neg z])
          have hs : own_s o c x = (-1 : Int32) := by rw [own_s, if_pos hc11]
          simp only [own_fd, own_fm, if_pos q, hs, own_max, hc43, if_true, if_false]; exact V155⟩
    · refine Win.st ?_ (fun tq kq => XS.icmpYes X0.here hx rfl (pc0 := 11) (pc' := 20) rfl (hb hby d_method_4_11) rfl (feq hc11).2 (by decide) (by decide) kq)
      show Win p e below _ s₁ (mkF mt 20 #[.val (.ref a), .val (.int x), .val (.int on), .val (.int o), .val (.int c), .val (.int (0 : Int32))] [])
      refine Win.st ?_ (fun tq kq => XS.iloadN X0.here hx rfl (hb hby d_method_4_20) rfl kq)
      show Win p e below _ s₁ (mkF mt 21 #[.val (.ref a), .val (.int x), .val (.int on), .val (.int o), .val (.int c), .val (.int (0 : Int32))] [(.int x)])
      refine Win.st ?_ (fun tq kq => XS.iloadN X0.here hx rfl (hb hby d_method_4_21) rfl kq)
      show Win p e below _ s₁ (mkF mt 22 #[.val (.ref a), .val (.int x), .val (.int on), .val (.int o), .val (.int c), .val (.int (0 : Int32))] [(.int o), (.int x)])
      by_cases hc22 : x = o
      · refine Win.st ?_ (fun tq kq => XS.icmpNo X0.here hx rfl (hb hby d_method_4_22) rfl (teq hc22).2 kq)
        show Win p e below _ s₁ (mkF mt 25 #[.val (.ref a), .val (.int x), .val (.int on), .val (.int o), .val (.int c), .val (.int (0 : Int32))] [])
        refine Win.st ?_ (fun tq kq => XS.iconst X0.here hx rfl (hb hby d_method_4_25) kq)
        show Win p e below _ s₁ (mkF mt 26 #[.val (.ref a), .val (.int x), .val (.int on), .val (.int o), .val (.int c), .val (.int (0 : Int32))] [(.int (1 : Int32))])
        refine Win.st ?_ (fun tq kq => XS.istore X0.here hx rfl (hb hby d_method_4_26) rfl (l' := #[.val (.ref a), .val (.int x), .val (.int on), .val (.int o), .val (.int c), .val (.int (1 : Int32))]) rfl kq)
        show Win p e below _ s₁ (mkF mt 28 #[.val (.ref a), .val (.int x), .val (.int on), .val (.int o), .val (.int c), .val (.int (1 : Int32))] [])
        refine Win.st ?_ (fun tq kq => XS.aloadN X0.here hx rfl (hb hby d_method_4_28) rfl rfl kq)
        show Win p e below _ s₁ (mkF mt 29 #[.val (.ref a), .val (.int x), .val (.int on), .val (.int o), .val (.int c), .val (.int (1 : Int32))] [(.ref a)])
        refine Win.st ?_ (fun tq kq => XS.iconst X0.here hx rfl (hb hby d_method_4_29) kq)
        show Win p e below _ s₁ (mkF mt 30 #[.val (.ref a), .val (.int x), .val (.int on), .val (.int o), .val (.int c), .val (.int (1 : Int32))] [(.int (0 : Int32)), (.ref a)])
        refine Win.st ?_ (fun tq kq => XS.aloadN X0.here hx rfl (hb hby d_method_4_30) rfl rfl kq)
        show Win p e below _ s₁ (mkF mt 31 #[.val (.ref a), .val (.int x), .val (.int on), .val (.int o), .val (.int c), .val (.int (1 : Int32))] [(.ref a), (.int (0 : Int32)), (.ref a)])
        refine Win.st ?_ (fun tq kq => XS.iconst X0.here hx rfl (hb hby d_method_4_31) kq)
        show Win p e below _ s₁ (mkF mt 32 #[.val (.ref a), .val (.int x), .val (.int on), .val (.int o), .val (.int c), .val (.int (1 : Int32))] [(.int (0 : Int32)), (.ref a), (.int (0 : Int32)), (.ref a)])
        refine Win.st ?_ (own_iald (g := (mkF mt 32 #[.val (.ref a), .val (.int x), .val (.int on), .val (.int o), .val (.int c), .val (.int (1 : Int32))] [(.int (0 : Int32)), (.ref a), (.int (0 : Int32)), (.ref a)])) X0 hx hZ e0 V (j := (0 : Int32)) (v := (.int d)) (by decide) (by decide) rfl rfl rfl (hb hby d_method_4_32))
        show Win p e below _ s₁ (mkF mt 33 #[.val (.ref a), .val (.int x), .val (.int on), .val (.int o), .val (.int c), .val (.int (1 : Int32))] [(.int d), (.int (0 : Int32)), (.ref a)])
        refine Win.st ?_ (fun tq kq => XS.iload X0.here hx rfl (hb hby d_method_4_33) rfl kq)
        show Win p e below _ s₁ (mkF mt 35 #[.val (.ref a), .val (.int x), .val (.int on), .val (.int o), .val (.int c), .val (.int (1 : Int32))] [(.int (1 : Int32)), (.int d), (.int (0 : Int32)), (.ref a)])
        refine Win.st ?_ (fun tq kq => XS.iadd X0.here hx rfl (hb hby d_method_4_35) rfl kq)
        show Win p e below _ s₁ (mkF mt 36 #[.val (.ref a), .val (.int x), .val (.int on), .val (.int o), .val (.int c), .val (.int (1 : Int32))] [(.int (d + (1 : Int32))), (.int (0 : Int32)), (.ref a)])
        obtain ⟨T163, h163, L163, X163, N163, e163, kp163, V163, st163⟩ := own_iast (g := (mkF mt 36 #[.val (.ref a), .val (.int x), .val (.int on), .val (.int o), .val (.int c), .val (.int (1 : Int32))] [(.int (d + (1 : Int32))), (.int (0 : Int32)), (.ref a)])) X0 hx hZ e0 N0 ga V (j := (0 : Int32)) (by decide) (by decide) (i := 0) rfl (by simp) rfl rfl (hb hby d_method_4_36)
        replace V163 : Arv Z h163 a ka .int (2 : Int32) ([(.int (d + (1 : Int32))), (.int m)]) (.int (0 : Int32)) := V163
        have Z165 : n0 ≤ h163.size := Nat.le_trans Z0 kp163.1
        have K166 : Keep h0 h163 [a] := Keep.trans (Keep.refl h0 [a]) kp163 (allS (Or.inl (List.mem_of_getElem? (i := 0) rfl)) all0)
        refine Win.st ?_ st163
        show Win p e below _ T163 (mkF mt 37 #[.val (.ref a), .val (.int x), .val (.int on), .val (.int o), .val (.int c), .val (.int (1 : Int32))] [])
        refine Win.st ?_ (fun tq kq => XS.aloadN X163.here hx rfl (hb hby d_method_4_37) rfl rfl kq)
        show Win p e below _ T163 (mkF mt 38 #[.val (.ref a), .val (.int x), .val (.int on), .val (.int o), .val (.int c), .val (.int (1 : Int32))] [(.ref a)])
        refine Win.st ?_ (fun tq kq => XS.iconst X163.here hx rfl (hb hby d_method_4_38) kq)
        show Win p e below _ T163 (mkF mt 39 #[.val (.ref a), .val (.int x), .val (.int on), .val (.int o), .val (.int c), .val (.int (1 : Int32))] [(.int (0 : Int32)), (.ref a)])
        refine Win.st ?_ (own_iald (g := (mkF mt 39 #[.val (.ref a), .val (.int x), .val (.int on), .val (.int o), .val (.int c), .val (.int (1 : Int32))] [(.int (0 : Int32)), (.ref a)])) X163 hx hZ e163 V163 (j := (0 : Int32)) (v := (.int (d + (1 : Int32)))) (by decide) (by decide) rfl rfl rfl (hb hby d_method_4_39))
        show Win p e below _ T163 (mkF mt 40 #[.val (.ref a), .val (.int x), .val (.int on), .val (.int o), .val (.int c), .val (.int (1 : Int32))] [(.int (d + (1 : Int32)))])
        refine Win.st ?_ (fun tq kq => XS.aloadN X163.here hx rfl (hb hby d_method_4_40) rfl rfl kq)
        show Win p e below _ T163 (mkF mt 41 #[.val (.ref a), .val (.int x), .val (.int on), .val (.int o), .val (.int c), .val (.int (1 : Int32))] [(.ref a), (.int (d + (1 : Int32)))])
        refine Win.st ?_ (fun tq kq => XS.iconst X163.here hx rfl (hb hby d_method_4_41) kq)
        show Win p e below _ T163 (mkF mt 42 #[.val (.ref a), .val (.int x), .val (.int on), .val (.int o), .val (.int c), .val (.int (1 : Int32))] [(.int (1 : Int32)), (.ref a), (.int (d + (1 : Int32)))])
        refine Win.st ?_ (own_iald (g := (mkF mt 42 #[.val (.ref a), .val (.int x), .val (.int on), .val (.int o), .val (.int c), .val (.int (1 : Int32))] [(.int (1 : Int32)), (.ref a), (.int (d + (1 : Int32)))])) X163 hx hZ e163 V163 (j := (1 : Int32)) (v := (.int m)) (by decide) (by decide) rfl rfl rfl (hb hby d_method_4_42))
        show Win p e below _ T163 (mkF mt 43 #[.val (.ref a), .val (.int x), .val (.int on), .val (.int o), .val (.int c), .val (.int (1 : Int32))] [(.int m), (.int (d + (1 : Int32)))])
        by_cases hc43 : m < (d + (1 : Int32))
        · refine Win.st ?_ (fun tq kq => XS.icmpNo X163.here hx rfl (hb hby d_method_4_43) rfl (tlt hc43).2.2.2 kq)
          show Win p e below _ T163 (mkF mt 46 #[.val (.ref a), .val (.int x), .val (.int on), .val (.int o), .val (.int c), .val (.int (1 : Int32))] [])
          refine Win.st ?_ (fun tq kq => XS.aloadN X163.here hx rfl (hb hby d_method_4_46) rfl rfl kq)
          show Win p e below _ T163 (mkF mt 47 #[.val (.ref a), .val (.int x), .val (.int on), .val (.int o), .val (.int c), .val (.int (1 : Int32))] [(.ref a)])
          refine Win.st ?_ (fun tq kq => XS.iconst X163.here hx rfl (hb hby d_method_4_47) kq)
          show Win p e below _ T163 (mkF mt 48 #[.val (.ref a), .val (.int x), .val (.int on), .val (.int o), .val (.int c), .val (.int (1 : Int32))] [(.int (1 : Int32)), (.ref a)])
          refine Win.st ?_ (fun tq kq => XS.aloadN X163.here hx rfl (hb hby d_method_4_48) rfl rfl kq)
          show Win p e below _ T163 (mkF mt 49 #[.val (.ref a), .val (.int x), .val (.int on), .val (.int o), .val (.int c), .val (.int (1 : Int32))] [(.ref a), (.int (1 : Int32)), (.ref a)])
          refine Win.st ?_ (fun tq kq => XS.iconst X163.here hx rfl (hb hby d_method_4_49) kq)
          show Win p e below _ T163 (mkF mt 50 #[.val (.ref a), .val (.int x), .val (.int on), .val (.int o), .val (.int c), .val (.int (1 : Int32))] [(.int (0 : Int32)), (.ref a), (.int (1 : Int32)), (.ref a)])
          refine Win.st ?_ (own_iald (g := (mkF mt 50 #[.val (.ref a), .val (.int x), .val (.int on), .val (.int o), .val (.int c), .val (.int (1 : Int32))] [(.int (0 : Int32)), (.ref a), (.int (1 : Int32)), (.ref a)])) X163 hx hZ e163 V163 (j := (0 : Int32)) (v := (.int (d + (1 : Int32)))) (by decide) (by decide) rfl rfl rfl (hb hby d_method_4_50))
          show Win p e below _ T163 (mkF mt 51 #[.val (.ref a), .val (.int x), .val (.int on), .val (.int o), .val (.int c), .val (.int (1 : Int32))] [(.int (d + (1 : Int32))), (.int (1 : Int32)), (.ref a)])
          obtain ⟨T167, h167, L167, X167, N167, e167, kp167, V167, st167⟩ := own_iast (g := (mkF mt 51 #[.val (.ref a), .val (.int x), .val (.int on), .val (.int o), .val (.int c), .val (.int (1 : Int32))] [(.int (d + (1 : Int32))), (.int (1 : Int32)), (.ref a)])) X163 hx hZ e163 N163 ga V163 (j := (1 : Int32)) (by decide) (by decide) (i := 1) rfl (by simp) rfl rfl (hb hby d_method_4_51)
          replace V167 : Arv Z h167 a ka .int (2 : Int32) ([(.int (d + (1 : Int32))), (.int (d + (1 : Int32)))]) (.int (0 : Int32)) := V167
          have Z169 : n0 ≤ h167.size := Nat.le_trans Z165 kp167.1
          have K170 : Keep h0 h167 [a] := Keep.trans K166 kp167 (allS (Or.inl (List.mem_of_getElem? (i := 0) rfl)) all0)
          refine Win.st ?_ st167
          show Win p e below _ T167 (mkF mt 52 #[.val (.ref a), .val (.int x), .val (.int on), .val (.int o), .val (.int c), .val (.int (1 : Int32))] [])
          exact Win.retV X167 hx hlk e167 hrt (hb hby d_method_4_52) (by decide) (by decide) ⟨rfl, N167, K170, by
            have q : k_ < n_ := Classical.byContradiction fun z => hc1 (by rw [hon, if_neg z])
            have hs : own_s o c x = (1 : Int32) := by rw [own_s, if_neg hc11, if_pos hc22]
            simp only [own_fd, own_fm, if_pos q, hs, own_max, hc43, if_true, if_false]; exact V167⟩
        · refine Win.st ?_ (fun tq kq => XS.icmpYes X163.here hx rfl (pc0 := 43) (pc' := 52) rfl (hb hby d_method_4_43) rfl (flt hc43).2.2.2 (by decide) (by decide) kq)
          show Win p e below _ T163 (mkF mt 52 #[.val (.ref a), .val (.int x), .val (.int on), .val (.int o), .val (.int c), .val (.int (1 : Int32))] [])
          exact Win.retV X163 hx hlk e163 hrt (hb hby d_method_4_52) (by decide) (by decide) ⟨rfl, N163, K166, by
            have q : k_ < n_ := Classical.byContradiction fun z => hc1 (by rw [hon, if_neg z])
            have hs : own_s o c x = (1 : Int32) := by rw [own_s, if_neg hc11, if_pos hc22]
            simp only [own_fd, own_fm, if_pos q, hs, own_max, hc43, if_true, if_false]; exact V163⟩
      · refine Win.st ?_ (fun tq kq => XS.icmpYes X0.here hx rfl (pc0 := 22) (pc' := 28) rfl (hb hby d_method_4_22) rfl (feq hc22).2 (by decide) (by decide) kq)
        show Win p e below _ s₁ (mkF mt 28 #[.val (.ref a), .val (.int x), .val (.int on), .val (.int o), .val (.int c), .val (.int (0 : Int32))] [])
        refine Win.st ?_ (fun tq kq => XS.aloadN X0.here hx rfl (hb hby d_method_4_28) rfl rfl kq)
        show Win p e below _ s₁ (mkF mt 29 #[.val (.ref a), .val (.int x), .val (.int on), .val (.int o), .val (.int c), .val (.int (0 : Int32))] [(.ref a)])
        refine Win.st ?_ (fun tq kq => XS.iconst X0.here hx rfl (hb hby d_method_4_29) kq)
        show Win p e below _ s₁ (mkF mt 30 #[.val (.ref a), .val (.int x), .val (.int on), .val (.int o), .val (.int c), .val (.int (0 : Int32))] [(.int (0 : Int32)), (.ref a)])
        refine Win.st ?_ (fun tq kq => XS.aloadN X0.here hx rfl (hb hby d_method_4_30) rfl rfl kq)
        show Win p e below _ s₁ (mkF mt 31 #[.val (.ref a), .val (.int x), .val (.int on), .val (.int o), .val (.int c), .val (.int (0 : Int32))] [(.ref a), (.int (0 : Int32)), (.ref a)])
        refine Win.st ?_ (fun tq kq => XS.iconst X0.here hx rfl (hb hby d_method_4_31) kq)
        show Win p e below _ s₁ (mkF mt 32 #[.val (.ref a), .val (.int x), .val (.int on), .val (.int o), .val (.int c), .val (.int (0 : Int32))] [(.int (0 : Int32)), (.ref a), (.int (0 : Int32)), (.ref a)])
        refine Win.st ?_ (own_iald (g := (mkF mt 32 #[.val (.ref a), .val (.int x), .val (.int on), .val (.int o), .val (.int c), .val (.int (0 : Int32))] [(.int (0 : Int32)), (.ref a), (.int (0 : Int32)), (.ref a)])) X0 hx hZ e0 V (j := (0 : Int32)) (v := (.int d)) (by decide) (by decide) rfl rfl rfl (hb hby d_method_4_32))
        show Win p e below _ s₁ (mkF mt 33 #[.val (.ref a), .val (.int x), .val (.int on), .val (.int o), .val (.int c), .val (.int (0 : Int32))] [(.int d), (.int (0 : Int32)), (.ref a)])
        refine Win.st ?_ (fun tq kq => XS.iload X0.here hx rfl (hb hby d_method_4_33) rfl kq)
        show Win p e below _ s₁ (mkF mt 35 #[.val (.ref a), .val (.int x), .val (.int on), .val (.int o), .val (.int c), .val (.int (0 : Int32))] [(.int (0 : Int32)), (.int d), (.int (0 : Int32)), (.ref a)])
        refine Win.st ?_ (fun tq kq => XS.iadd X0.here hx rfl (hb hby d_method_4_35) rfl kq)
        show Win p e below _ s₁ (mkF mt 36 #[.val (.ref a), .val (.int x), .val (.int on), .val (.int o), .val (.int c), .val (.int (0 : Int32))] [(.int (d + (0 : Int32))), (.int (0 : Int32)), (.ref a)])
        obtain ⟨T171, h171, L171, X171, N171, e171, kp171, V171, st171⟩ := own_iast (g := (mkF mt 36 #[.val (.ref a), .val (.int x), .val (.int on), .val (.int o), .val (.int c), .val (.int (0 : Int32))] [(.int (d + (0 : Int32))), (.int (0 : Int32)), (.ref a)])) X0 hx hZ e0 N0 ga V (j := (0 : Int32)) (by decide) (by decide) (i := 0) rfl (by simp) rfl rfl (hb hby d_method_4_36)
        replace V171 : Arv Z h171 a ka .int (2 : Int32) ([(.int (d + (0 : Int32))), (.int m)]) (.int (0 : Int32)) := V171
        have Z173 : n0 ≤ h171.size := Nat.le_trans Z0 kp171.1
        have K174 : Keep h0 h171 [a] := Keep.trans (Keep.refl h0 [a]) kp171 (allS (Or.inl (List.mem_of_getElem? (i := 0) rfl)) all0)
        refine Win.st ?_ st171
        show Win p e below _ T171 (mkF mt 37 #[.val (.ref a), .val (.int x), .val (.int on), .val (.int o), .val (.int c), .val (.int (0 : Int32))] [])
        refine Win.st ?_ (fun tq kq => XS.aloadN X171.here hx rfl (hb hby d_method_4_37) rfl rfl kq)
        show Win p e below _ T171 (mkF mt 38 #[.val (.ref a), .val (.int x), .val (.int on), .val (.int o), .val (.int c), .val (.int (0 : Int32))] [(.ref a)])
        refine Win.st ?_ (fun tq kq => XS.iconst X171.here hx rfl (hb hby d_method_4_38) kq)
        show Win p e below _ T171 (mkF mt 39 #[.val (.ref a), .val (.int x), .val (.int on), .val (.int o), .val (.int c), .val (.int (0 : Int32))] [(.int (0 : Int32)), (.ref a)])
        refine Win.st ?_ (own_iald (g := (mkF mt 39 #[.val (.ref a), .val (.int x), .val (.int on), .val (.int o), .val (.int c), .val (.int (0 : Int32))] [(.int (0 : Int32)), (.ref a)])) X171 hx hZ e171 V171 (j := (0 : Int32)) (v := (.int (d + (0 : Int32)))) (by decide) (by decide) rfl rfl rfl (hb hby d_method_4_39))
        show Win p e below _ T171 (mkF mt 40 #[.val (.ref a), .val (.int x), .val (.int on), .val (.int o), .val (.int c), .val (.int (0 : Int32))] [(.int (d + (0 : Int32)))])
        refine Win.st ?_ (fun tq kq => XS.aloadN X171.here hx rfl (hb hby d_method_4_40) rfl rfl kq)
        show Win p e below _ T171 (mkF mt 41 #[.val (.ref a), .val (.int x), .val (.int on), .val (.int o), .val (.int c), .val (.int (0 : Int32))] [(.ref a), (.int (d + (0 : Int32)))])
        refine Win.st ?_ (fun tq kq => XS.iconst X171.here hx rfl (hb hby d_method_4_41) kq)
        show Win p e below _ T171 (mkF mt 42 #[.val (.ref a), .val (.int x), .val (.int on), .val (.int o), .val (.int c), .val (.int (0 : Int32))] [(.int (1 : Int32)), (.ref a), (.int (d + (0 : Int32)))])
        refine Win.st ?_ (own_iald (g := (mkF mt 42 #[.val (.ref a), .val (.int x), .val (.int on), .val (.int o), .val (.int c), .val (.int (0 : Int32))] [(.int (1 : Int32)), (.ref a), (.int (d + (0 : Int32)))])) X171 hx hZ e171 V171 (j := (1 : Int32)) (v := (.int m)) (by decide) (by decide) rfl rfl rfl (hb hby d_method_4_42))
        show Win p e below _ T171 (mkF mt 43 #[.val (.ref a), .val (.int x), .val (.int on), .val (.int o), .val (.int c), .val (.int (0 : Int32))] [(.int m), (.int (d + (0 : Int32)))])
        by_cases hc43 : m < (d + (0 : Int32))
        · refine Win.st ?_ (fun tq kq => XS.icmpNo X171.here hx rfl (hb hby d_method_4_43) rfl (tlt hc43).2.2.2 kq)
          show Win p e below _ T171 (mkF mt 46 #[.val (.ref a), .val (.int x), .val (.int on), .val (.int o), .val (.int c), .val (.int (0 : Int32))] [])
          refine Win.st ?_ (fun tq kq => XS.aloadN X171.here hx rfl (hb hby d_method_4_46) rfl rfl kq)
          show Win p e below _ T171 (mkF mt 47 #[.val (.ref a), .val (.int x), .val (.int on), .val (.int o), .val (.int c), .val (.int (0 : Int32))] [(.ref a)])
          refine Win.st ?_ (fun tq kq => XS.iconst X171.here hx rfl (hb hby d_method_4_47) kq)
          show Win p e below _ T171 (mkF mt 48 #[.val (.ref a), .val (.int x), .val (.int on), .val (.int o), .val (.int c), .val (.int (0 : Int32))] [(.int (1 : Int32)), (.ref a)])
          refine Win.st ?_ (fun tq kq => XS.aloadN X171.here hx rfl (hb hby d_method_4_48) rfl rfl kq)
          show Win p e below _ T171 (mkF mt 49 #[.val (.ref a), .val (.int x), .val (.int on), .val (.int o), .val (.int c), .val (.int (0 : Int32))] [(.ref a), (.int (1 : Int32)), (.ref a)])
          refine Win.st ?_ (fun tq kq => XS.iconst X171.here hx rfl (hb hby d_method_4_49) kq)
          show Win p e below _ T171 (mkF mt 50 #[.val (.ref a), .val (.int x), .val (.int on), .val (.int o), .val (.int c), .val (.int (0 : Int32))] [(.int (0 : Int32)), (.ref a), (.int (1 : Int32)), (.ref a)])
          refine Win.st ?_ (own_iald (g := (mkF mt 50 #[.val (.ref a), .val (.int x), .val (.int on), .val (.int o), .val (.int c), .val (.int (0 : Int32))] [(.int (0 : Int32)), (.ref a), (.int (1 : Int32)), (.ref a)])) X171 hx hZ e171 V171 (j := (0 : Int32)) (v := (.int (d + (0 : Int32)))) (by decide) (by decide) rfl rfl rfl (hb hby d_method_4_50))
          show Win p e below _ T171 (mkF mt 51 #[.val (.ref a), .val (.int x), .val (.int on), .val (.int o), .val (.int c), .val (.int (0 : Int32))] [(.int (d + (0 : Int32))), (.int (1 : Int32)), (.ref a)])
          obtain ⟨T175, h175, L175, X175, N175, e175, kp175, V175, st175⟩ := own_iast (g := (mkF mt 51 #[.val (.ref a), .val (.int x), .val (.int on), .val (.int o), .val (.int c), .val (.int (0 : Int32))] [(.int (d + (0 : Int32))), (.int (1 : Int32)), (.ref a)])) X171 hx hZ e171 N171 ga V171 (j := (1 : Int32)) (by decide) (by decide) (i := 1) rfl (by simp) rfl rfl (hb hby d_method_4_51)
          replace V175 : Arv Z h175 a ka .int (2 : Int32) ([(.int (d + (0 : Int32))), (.int (d + (0 : Int32)))]) (.int (0 : Int32)) := V175
          have Z177 : n0 ≤ h175.size := Nat.le_trans Z173 kp175.1
          have K178 : Keep h0 h175 [a] := Keep.trans K174 kp175 (allS (Or.inl (List.mem_of_getElem? (i := 0) rfl)) all0)
          refine Win.st ?_ st175
          show Win p e below _ T175 (mkF mt 52 #[.val (.ref a), .val (.int x), .val (.int on), .val (.int o), .val (.int c), .val (.int (0 : Int32))] [])
          exact Win.retV X175 hx hlk e175 hrt (hb hby d_method_4_52) (by decide) (by decide) ⟨rfl, N175, K178, by
            have q : k_ < n_ := Classical.byContradiction fun z => hc1 (by rw [hon, if_neg z])
            have hs : own_s o c x = (0 : Int32) := by rw [own_s, if_neg hc11, if_neg hc22]
            simp only [own_fd, own_fm, if_pos q, hs, own_max, hc43, if_true, if_false]; exact V175⟩
        · refine Win.st ?_ (fun tq kq => XS.icmpYes X171.here hx rfl (pc0 := 43) (pc' := 52) rfl (hb hby d_method_4_43) rfl (flt hc43).2.2.2 (by decide) (by decide) kq)
          show Win p e below _ T171 (mkF mt 52 #[.val (.ref a), .val (.int x), .val (.int on), .val (.int o), .val (.int c), .val (.int (0 : Int32))] [])
          exact Win.retV X171 hx hlk e171 hrt (hb hby d_method_4_52) (by decide) (by decide) ⟨rfl, N171, K174, by
            have q : k_ < n_ := Classical.byContradiction fun z => hc1 (by rw [hon, if_neg z])
            have hs : own_s o c x = (0 : Int32) := by rw [own_s, if_neg hc11, if_neg hc22]
            simp only [own_fd, own_fm, if_pos q, hs, own_max, hc43, if_true, if_false]; exact V171⟩
theorem pd_13 : parseMethodDescriptor "(IIIIII)I" = some ⟨[.int, .int, .int, .int, .int, .int], some .int⟩ := by decide +kernel
theorem pd_14 : parseMethodDescriptor "(C)Ljava/lang/String;" = some ⟨[.char], some (.object "java/lang/String")⟩ := by decide +kernel
theorem pd_15 : parseMethodDescriptor "(Ljava/lang/String;Ljava/lang/String;)V" = some ⟨[(.object "java/lang/String"), (.object "java/lang/String")], none⟩ := by decide +kernel
theorem pd_16 : parseMethodDescriptor "([BI)V" = some ⟨[(.array .byte), .int], none⟩ := by decide +kernel
theorem pd_17 : parseMethodDescriptor "([IIZII)V" = some ⟨[(.array .int), .int, .boolean, .int, .int], none⟩ := by decide +kernel
theorem ef_law (mt : MethodId) (chars : Int32) (sel : Int32) (lens : Int32) : entryFrame mt #[(.int chars), (.int sel), (.int lens)] maxLocals = mkF mt 0 #[.val (.int chars), .val (.int sel), .val (.int lens), .unset, .unset, .unset, .unset, .unset, .unset, .unset, .unset, .unset, .unset, .unset, .unset, .unset, .unset, .unset, .unset, .unset, .unset, .unset, .unset, .unset, .unset] [] := by first | (simp [entryFrame, mkF, argsToLocals, Value.category, maxLocals]; done) | rfl
def Q_law (Z : State) (chars : Int32) (sel : Int32) (lens : Int32) (cs : Int32) (u : Value) (h0 : Heap) (n0 : Nat) (v : Option Value) (h : Heap) (L : List Loc) : Prop := v = some (.int 1) ∧ Fr n0 L
set_option maxRecDepth 65536 in
set_option maxHeartbeats 40000000 in
theorem rm_law (l : Launch) (Z : State) (a0 : Array Value) (hw : ∀ d ∈ tables_1, d.before a0 Z = true) (ws : List Jvm.Cond) (chars : Int32) (sel : Int32) (lens : Int32) (cs : Int32) (u : Value) (h0 : Heap) (n0 : Nat) (Z0 : n0 ≤ h0.size) (S0 : Sta Z Z.heap "java/lang/String" "COMPACT_STRINGS" "Z" (.int cs)) (hcs : ¬ cs = (0 : Int32)) (O : Old Z n0 h0) (S1 : Sta Z Z.heap "jdk/internal/util/Preconditions" "SIOOBE_FORMATTER" "Ljava/util/function/BiFunction;" u) (hu : u.isRef = true) :
    MetFree l x (head1 (Jvm.Cond.code x code maxLocals ret :: ws) room_1) (fun aa UU => aa = #[(.int chars), (.int sel), (.int lens)] ∧ Z.Warmed39 UU.vm ∧ UU.heap = h0) (fun _ _ _ _ _ => True) (fun _ UU oo UU' => ∃ vv LL, oo = .returned vv ∧ Q_law Z chars sel lens cs u h0 n0 vv UU'.heap LL ∧ FrameEnd UU oo UU' LL 9 279) := by
  refine MetFree.of_bodySF (plainFor_of_name pn_0) hisR ?_
  intro p e s mt args below meth cd s₁ Bd hml0 hP hK
  obtain ⟨hA, hZ, hh⟩ := hP
  have hx := Bd.exec
  have hby := Bd.bytes
  have hml : cd.maxLocals = 25 := hml0
  have hown : s.vm.findClass "com/example/modest_tableau/modesttableau/document/BracketDepthAddPinLaw" = some mt.cls := findClass_of_methodNamed Bd.named
  have hnm := (name_of_methodNamed Bd.named Bd.method).1
  have hlk : meth.locks = false := BodyLoose.notSynchronized Bd
  have hrt := Bd.returns
  have X0 : Stand p l e room_1 s mt args below meth cd s₁ [] 0 0 := Stand.of_body Bd
  have e0 : s₁.heap = h0 := by rw [← hh, Bd.state]; rfl
  have N0 := Fr.nil n0
  show Win p e below (Ends s (Q_law Z chars sel lens cs u h0 n0) 9 279) s₁ (entryFrame mt args maxLocals)
  rw [hA, ef_law]
  refine Win.st ?_ (fun tq kq => XS.iloadN X0.here hx rfl (hb hby at_0) rfl kq)
  show Win p e below _ s₁ (mkF mt 1 #[.val (.int chars), .val (.int sel), .val (.int lens), .unset, .unset, .unset, .unset, .unset, .unset, .unset, .unset, .unset, .unset, .unset, .unset, .unset, .unset, .unset, .unset, .unset, .unset, .unset, .unset, .unset, .unset] [(.int chars)])
  refine Win.st ?_ (fun tq kq => XS.sipush X0.here hx rfl (hb hby at_1) kq)
  show Win p e below _ s₁ (mkF mt 4 #[.val (.int chars), .val (.int sel), .val (.int lens), .unset, .unset, .unset, .unset, .unset, .unset, .unset, .unset, .unset, .unset, .unset, .unset, .unset, .unset, .unset, .unset, .unset, .unset, .unset, .unset, .unset, .unset] [(.int (255 : Int32)), (.int chars)])
  refine Win.st ?_ (fun tq kq => XS.iand X0.here hx rfl (hb hby at_4) rfl kq)
  show Win p e below _ s₁ (mkF mt 5 #[.val (.int chars), .val (.int sel), .val (.int lens), .unset, .unset, .unset, .unset, .unset, .unset, .unset, .unset, .unset, .unset, .unset, .unset, .unset, .unset, .unset, .unset, .unset, .unset, .unset, .unset, .unset, .unset] [(.int (chars &&& (255 : Int32)))])
  obtain ⟨o, hqo⟩ : ∃ z, z = (chars &&& (255 : Int32)) := ⟨_, rfl⟩
  have ho : own_B o := by rw [hqo]; exact own_maskB _
  rw [← hqo]
  show Win p e below _ s₁ (mkF mt 5 #[.val (.int chars), .val (.int sel), .val (.int lens), .unset, .unset, .unset, .unset, .unset, .unset, .unset, .unset, .unset, .unset, .unset, .unset, .unset, .unset, .unset, .unset, .unset, .unset, .unset, .unset, .unset, .unset] [(.int o)])
  refine Win.st ?_ (fun tq kq => XS.istoreN X0.here hx rfl (hb hby at_5) rfl (l' := #[.val (.int chars), .val (.int sel), .val (.int lens), .val (.int o), .unset, .unset, .unset, .unset, .unset, .unset, .unset, .unset, .unset, .unset, .unset, .unset, .unset, .unset, .unset, .unset, .unset, .unset, .unset, .unset, .unset]) rfl kq)
  show Win p e below _ s₁ (mkF mt 6 #[.val (.int chars), .val (.int sel), .val (.int lens), .val (.int o), .unset, .unset, .unset, .unset, .unset, .unset, .unset, .unset, .unset, .unset, .unset, .unset, .unset, .unset, .unset, .unset, .unset, .unset, .unset, .unset, .unset] [])
  refine Win.st ?_ (fun tq kq => XS.iloadN X0.here hx rfl (hb hby at_6) rfl kq)
  show Win p e below _ s₁ (mkF mt 7 #[.val (.int chars), .val (.int sel), .val (.int lens), .val (.int o), .unset, .unset, .unset, .unset, .unset, .unset, .unset, .unset, .unset, .unset, .unset, .unset, .unset, .unset, .unset, .unset, .unset, .unset, .unset, .unset, .unset] [(.int chars)])
  refine Win.st ?_ (fun tq kq => XS.bipush X0.here hx rfl (hb hby at_7) kq)
  show Win p e below _ s₁ (mkF mt 9 #[.val (.int chars), .val (.int sel), .val (.int lens), .val (.int o), .unset, .unset, .unset, .unset, .unset, .unset, .unset, .unset, .unset, .unset, .unset, .unset, .unset, .unset, .unset, .unset, .unset, .unset, .unset, .unset, .unset] [(.int (8 : Int32)), (.int chars)])
  refine Win.st ?_ (fun tq kq => XS.iushr X0.here hx rfl (hb hby at_9) rfl kq)
  show Win p e below _ s₁ (mkF mt 10 #[.val (.int chars), .val (.int sel), .val (.int lens), .val (.int o), .unset, .unset, .unset, .unset, .unset, .unset, .unset, .unset, .unset, .unset, .unset, .unset, .unset, .unset, .unset, .unset, .unset, .unset, .unset, .unset, .unset] [(.int ((chars.toUInt32 >>> ((8 : Int32) &&& 31).toUInt32).toInt32))])
  refine Win.st ?_ (fun tq kq => XS.sipush X0.here hx rfl (hb hby at_10) kq)
  show Win p e below _ s₁ (mkF mt 13 #[.val (.int chars), .val (.int sel), .val (.int lens), .val (.int o), .unset, .unset, .unset, .unset, .unset, .unset, .unset, .unset, .unset, .unset, .unset, .unset, .unset, .unset, .unset, .unset, .unset, .unset, .unset, .unset, .unset] [(.int (255 : Int32)), (.int ((chars.toUInt32 >>> ((8 : Int32) &&& 31).toUInt32).toInt32))])
  refine Win.st ?_ (fun tq kq => XS.iand X0.here hx rfl (hb hby at_13) rfl kq)
  show Win p e below _ s₁ (mkF mt 14 #[.val (.int chars), .val (.int sel), .val (.int lens), .val (.int o), .unset, .unset, .unset, .unset, .unset, .unset, .unset, .unset, .unset, .unset, .unset, .unset, .unset, .unset, .unset, .unset, .unset, .unset, .unset, .unset, .unset] [(.int (((chars.toUInt32 >>> ((8 : Int32) &&& 31).toUInt32).toInt32) &&& (255 : Int32)))])
  obtain ⟨c, hqc⟩ : ∃ z, z = (((chars.toUInt32 >>> ((8 : Int32) &&& 31).toUInt32).toInt32) &&& (255 : Int32)) := ⟨_, rfl⟩
  have hc : own_B c := by rw [hqc]; exact own_maskB _
  rw [← hqc]
  show Win p e below _ s₁ (mkF mt 14 #[.val (.int chars), .val (.int sel), .val (.int lens), .val (.int o), .unset, .unset, .unset, .unset, .unset, .unset, .unset, .unset, .unset, .unset, .unset, .unset, .unset, .unset, .unset, .unset, .unset, .unset, .unset, .unset, .unset] [(.int c)])
  refine Win.st ?_ (fun tq kq => XS.istore X0.here hx rfl (hb hby at_14) rfl (l' := #[.val (.int chars), .val (.int sel), .val (.int lens), .val (.int o), .val (.int c), .unset, .unset, .unset, .unset, .unset, .unset, .unset, .unset, .unset, .unset, .unset, .unset, .unset, .unset, .unset, .unset, .unset, .unset, .unset, .unset]) rfl kq)
  show Win p e below _ s₁ (mkF mt 16 #[.val (.int chars), .val (.int sel), .val (.int lens), .val (.int o), .val (.int c), .unset, .unset, .unset, .unset, .unset, .unset, .unset, .unset, .unset, .unset, .unset, .unset, .unset, .unset, .unset, .unset, .unset, .unset, .unset, .unset] [])
  refine Win.st ?_ (fun tq kq => XS.iloadN X0.here hx rfl (hb hby at_16) rfl kq)
  show Win p e below _ s₁ (mkF mt 17 #[.val (.int chars), .val (.int sel), .val (.int lens), .val (.int o), .val (.int c), .unset, .unset, .unset, .unset, .unset, .unset, .unset, .unset, .unset, .unset, .unset, .unset, .unset, .unset, .unset, .unset, .unset, .unset, .unset, .unset] [(.int chars)])
  refine Win.st ?_ (fun tq kq => XS.bipush X0.here hx rfl (hb hby at_17) kq)
  show Win p e below _ s₁ (mkF mt 19 #[.val (.int chars), .val (.int sel), .val (.int lens), .val (.int o), .val (.int c), .unset, .unset, .unset, .unset, .unset, .unset, .unset, .unset, .unset, .unset, .unset, .unset, .unset, .unset, .unset, .unset, .unset, .unset, .unset, .unset] [(.int (16 : Int32)), (.int chars)])
  refine Win.st ?_ (fun tq kq => XS.iushr X0.here hx rfl (hb hby at_19) rfl kq)
  show Win p e below _ s₁ (mkF mt 20 #[.val (.int chars), .val (.int sel), .val (.int lens), .val (.int o), .val (.int c), .unset, .unset, .unset, .unset, .unset, .unset, .unset, .unset, .unset, .unset, .unset, .unset, .unset, .unset, .unset, .unset, .unset, .unset, .unset, .unset] [(.int ((chars.toUInt32 >>> ((16 : Int32) &&& 31).toUInt32).toInt32))])
  refine Win.st ?_ (fun tq kq => XS.sipush X0.here hx rfl (hb hby at_20) kq)
  show Win p e below _ s₁ (mkF mt 23 #[.val (.int chars), .val (.int sel), .val (.int lens), .val (.int o), .val (.int c), .unset, .unset, .unset, .unset, .unset, .unset, .unset, .unset, .unset, .unset, .unset, .unset, .unset, .unset, .unset, .unset, .unset, .unset, .unset, .unset] [(.int (255 : Int32)), (.int ((chars.toUInt32 >>> ((16 : Int32) &&& 31).toUInt32).toInt32))])
  refine Win.st ?_ (fun tq kq => XS.iand X0.here hx rfl (hb hby at_23) rfl kq)
  show Win p e below _ s₁ (mkF mt 24 #[.val (.int chars), .val (.int sel), .val (.int lens), .val (.int o), .val (.int c), .unset, .unset, .unset, .unset, .unset, .unset, .unset, .unset, .unset, .unset, .unset, .unset, .unset, .unset, .unset, .unset, .unset, .unset, .unset, .unset] [(.int (((chars.toUInt32 >>> ((16 : Int32) &&& 31).toUInt32).toInt32) &&& (255 : Int32)))])
  obtain ⟨f, hqf⟩ : ∃ z, z = (((chars.toUInt32 >>> ((16 : Int32) &&& 31).toUInt32).toInt32) &&& (255 : Int32)) := ⟨_, rfl⟩
  have hf : own_B f := by rw [hqf]; exact own_maskB _
  rw [← hqf]
  show Win p e below _ s₁ (mkF mt 24 #[.val (.int chars), .val (.int sel), .val (.int lens), .val (.int o), .val (.int c), .unset, .unset, .unset, .unset, .unset, .unset, .unset, .unset, .unset, .unset, .unset, .unset, .unset, .unset, .unset, .unset, .unset, .unset, .unset, .unset] [(.int f)])
  refine Win.st ?_ (fun tq kq => XS.istore X0.here hx rfl (hb hby at_24) rfl (l' := #[.val (.int chars), .val (.int sel), .val (.int lens), .val (.int o), .val (.int c), .val (.int f), .unset, .unset, .unset, .unset, .unset, .unset, .unset, .unset, .unset, .unset, .unset, .unset, .unset, .unset, .unset, .unset, .unset, .unset, .unset]) rfl kq)
  show Win p e below _ s₁ (mkF mt 26 #[.val (.int chars), .val (.int sel), .val (.int lens), .val (.int o), .val (.int c), .val (.int f), .unset, .unset, .unset, .unset, .unset, .unset, .unset, .unset, .unset, .unset, .unset, .unset, .unset, .unset, .unset, .unset, .unset, .unset, .unset] [])
  refine Win.st ?_ (fun tq kq => XS.iloadN X0.here hx rfl (hb hby at_26) rfl kq)
  show Win p e below _ s₁ (mkF mt 27 #[.val (.int chars), .val (.int sel), .val (.int lens), .val (.int o), .val (.int c), .val (.int f), .unset, .unset, .unset, .unset, .unset, .unset, .unset, .unset, .unset, .unset, .unset, .unset, .unset, .unset, .unset, .unset, .unset, .unset, .unset] [(.int chars)])
  refine Win.st ?_ (fun tq kq => XS.bipush X0.here hx rfl (hb hby at_27) kq)
  show Win p e below _ s₁ (mkF mt 29 #[.val (.int chars), .val (.int sel), .val (.int lens), .val (.int o), .val (.int c), .val (.int f), .unset, .unset, .unset, .unset, .unset, .unset, .unset, .unset, .unset, .unset, .unset, .unset, .unset, .unset, .unset, .unset, .unset, .unset, .unset] [(.int (24 : Int32)), (.int chars)])
  refine Win.st ?_ (fun tq kq => XS.iushr X0.here hx rfl (hb hby at_29) rfl kq)
  show Win p e below _ s₁ (mkF mt 30 #[.val (.int chars), .val (.int sel), .val (.int lens), .val (.int o), .val (.int c), .val (.int f), .unset, .unset, .unset, .unset, .unset, .unset, .unset, .unset, .unset, .unset, .unset, .unset, .unset, .unset, .unset, .unset, .unset, .unset, .unset] [(.int ((chars.toUInt32 >>> ((24 : Int32) &&& 31).toUInt32).toInt32))])
  refine Win.st ?_ (fun tq kq => XS.sipush X0.here hx rfl (hb hby at_30) kq)
  show Win p e below _ s₁ (mkF mt 33 #[.val (.int chars), .val (.int sel), .val (.int lens), .val (.int o), .val (.int c), .val (.int f), .unset, .unset, .unset, .unset, .unset, .unset, .unset, .unset, .unset, .unset, .unset, .unset, .unset, .unset, .unset, .unset, .unset, .unset, .unset] [(.int (255 : Int32)), (.int ((chars.toUInt32 >>> ((24 : Int32) &&& 31).toUInt32).toInt32))])
  refine Win.st ?_ (fun tq kq => XS.iand X0.here hx rfl (hb hby at_33) rfl kq)
  show Win p e below _ s₁ (mkF mt 34 #[.val (.int chars), .val (.int sel), .val (.int lens), .val (.int o), .val (.int c), .val (.int f), .unset, .unset, .unset, .unset, .unset, .unset, .unset, .unset, .unset, .unset, .unset, .unset, .unset, .unset, .unset, .unset, .unset, .unset, .unset] [(.int (((chars.toUInt32 >>> ((24 : Int32) &&& 31).toUInt32).toInt32) &&& (255 : Int32)))])
  obtain ⟨g, hqg⟩ : ∃ z, z = (((chars.toUInt32 >>> ((24 : Int32) &&& 31).toUInt32).toInt32) &&& (255 : Int32)) := ⟨_, rfl⟩
  have hg : own_B g := by rw [hqg]; exact own_maskB _
  rw [← hqg]
  show Win p e below _ s₁ (mkF mt 34 #[.val (.int chars), .val (.int sel), .val (.int lens), .val (.int o), .val (.int c), .val (.int f), .unset, .unset, .unset, .unset, .unset, .unset, .unset, .unset, .unset, .unset, .unset, .unset, .unset, .unset, .unset, .unset, .unset, .unset, .unset] [(.int g)])
  refine Win.st ?_ (fun tq kq => XS.istore X0.here hx rfl (hb hby at_34) rfl (l' := #[.val (.int chars), .val (.int sel), .val (.int lens), .val (.int o), .val (.int c), .val (.int f), .val (.int g), .unset, .unset, .unset, .unset, .unset, .unset, .unset, .unset, .unset, .unset, .unset, .unset, .unset, .unset, .unset, .unset, .unset, .unset]) rfl kq)
  show Win p e below _ s₁ (mkF mt 36 #[.val (.int chars), .val (.int sel), .val (.int lens), .val (.int o), .val (.int c), .val (.int f), .val (.int g), .unset, .unset, .unset, .unset, .unset, .unset, .unset, .unset, .unset, .unset, .unset, .unset, .unset, .unset, .unset, .unset, .unset, .unset] [])
  refine Win.st ?_ (fun tq kq => XS.iloadN X0.here hx rfl (hb hby at_36) rfl kq)
  show Win p e below _ s₁ (mkF mt 37 #[.val (.int chars), .val (.int sel), .val (.int lens), .val (.int o), .val (.int c), .val (.int f), .val (.int g), .unset, .unset, .unset, .unset, .unset, .unset, .unset, .unset, .unset, .unset, .unset, .unset, .unset, .unset, .unset, .unset, .unset, .unset] [(.int lens)])
  refine Win.st ?_ (X0.ldcInt hx hown (mvT hZ (hw _ (List.mem_of_getElem? (i := 0) rfl))) (g := (mkF mt 37 #[.val (.int chars), .val (.int sel), .val (.int lens), .val (.int o), .val (.int c), .val (.int f), .val (.int g), .unset, .unset, .unset, .unset, .unset, .unset, .unset, .unset, .unset, .unset, .unset, .unset, .unset, .unset, .unset, .unset, .unset, .unset] [(.int lens)])) rfl (hb hby at_37))
  show Win p e below _ s₁ (mkF mt 39 #[.val (.int chars), .val (.int sel), .val (.int lens), .val (.int o), .val (.int c), .val (.int f), .val (.int g), .unset, .unset, .unset, .unset, .unset, .unset, .unset, .unset, .unset, .unset, .unset, .unset, .unset, .unset, .unset, .unset, .unset, .unset] [(.int (2147483647 : Int32)), (.int lens)])
  refine Win.st ?_ (fun tq kq => XS.iand X0.here hx rfl (hb hby at_39) rfl kq)
  show Win p e below _ s₁ (mkF mt 40 #[.val (.int chars), .val (.int sel), .val (.int lens), .val (.int o), .val (.int c), .val (.int f), .val (.int g), .unset, .unset, .unset, .unset, .unset, .unset, .unset, .unset, .unset, .unset, .unset, .unset, .unset, .unset, .unset, .unset, .unset, .unset] [(.int (lens &&& (2147483647 : Int32)))])
  refine Win.st ?_ (fun tq kq => XS.iconst X0.here hx rfl (hb hby at_40) kq)
  show Win p e below _ s₁ (mkF mt 41 #[.val (.int chars), .val (.int sel), .val (.int lens), .val (.int o), .val (.int c), .val (.int f), .val (.int g), .unset, .unset, .unset, .unset, .unset, .unset, .unset, .unset, .unset, .unset, .unset, .unset, .unset, .unset, .unset, .unset, .unset, .unset] [(.int (5 : Int32)), (.int (lens &&& (2147483647 : Int32)))])
  refine Win.st ?_ (fun tq kq => iremM X0 hx rfl (hb hby at_41) rfl (by decide) kq)
  show Win p e below _ s₁ (mkF mt 42 #[.val (.int chars), .val (.int sel), .val (.int lens), .val (.int o), .val (.int c), .val (.int f), .val (.int g), .unset, .unset, .unset, .unset, .unset, .unset, .unset, .unset, .unset, .unset, .unset, .unset, .unset, .unset, .unset, .unset, .unset, .unset] [(.int ((lens &&& (2147483647 : Int32)) % (5 : Int32)))])
  obtain ⟨l1, hql1⟩ : ∃ z, z = ((lens &&& (2147483647 : Int32)) % (5 : Int32)) := ⟨_, rfl⟩
  have hl1 : l1 = 0 ∨ l1 = 1 ∨ l1 = 2 ∨ l1 = 3 ∨ l1 = 4 := by rw [hql1]; exact own_five _
  rw [← hql1]
  show Win p e below _ s₁ (mkF mt 42 #[.val (.int chars), .val (.int sel), .val (.int lens), .val (.int o), .val (.int c), .val (.int f), .val (.int g), .unset, .unset, .unset, .unset, .unset, .unset, .unset, .unset, .unset, .unset, .unset, .unset, .unset, .unset, .unset, .unset, .unset, .unset] [(.int l1)])
  refine Win.st ?_ (fun tq kq => XS.istore X0.here hx rfl (hb hby at_42) rfl (l' := #[.val (.int chars), .val (.int sel), .val (.int lens), .val (.int o), .val (.int c), .val (.int f), .val (.int g), .val (.int l1), .unset, .unset, .unset, .unset, .unset, .unset, .unset, .unset, .unset, .unset, .unset, .unset, .unset, .unset, .unset, .unset, .unset]) rfl kq)
  show Win p e below _ s₁ (mkF mt 44 #[.val (.int chars), .val (.int sel), .val (.int lens), .val (.int o), .val (.int c), .val (.int f), .val (.int g), .val (.int l1), .unset, .unset, .unset, .unset, .unset, .unset, .unset, .unset, .unset, .unset, .unset, .unset, .unset, .unset, .unset, .unset, .unset] [])
  refine Win.st ?_ (fun tq kq => XS.iloadN X0.here hx rfl (hb hby at_44) rfl kq)
  show Win p e below _ s₁ (mkF mt 45 #[.val (.int chars), .val (.int sel), .val (.int lens), .val (.int o), .val (.int c), .val (.int f), .val (.int g), .val (.int l1), .unset, .unset, .unset, .unset, .unset, .unset, .unset, .unset, .unset, .unset, .unset, .unset, .unset, .unset, .unset, .unset, .unset] [(.int lens)])
  refine Win.st ?_ (fun tq kq => XS.bipush X0.here hx rfl (hb hby at_45) kq)
  show Win p e below _ s₁ (mkF mt 47 #[.val (.int chars), .val (.int sel), .val (.int lens), .val (.int o), .val (.int c), .val (.int f), .val (.int g), .val (.int l1), .unset, .unset, .unset, .unset, .unset, .unset, .unset, .unset, .unset, .unset, .unset, .unset, .unset, .unset, .unset, .unset, .unset] [(.int (8 : Int32)), (.int lens)])
  refine Win.st ?_ (fun tq kq => XS.iushr X0.here hx rfl (hb hby at_47) rfl kq)
  show Win p e below _ s₁ (mkF mt 48 #[.val (.int chars), .val (.int sel), .val (.int lens), .val (.int o), .val (.int c), .val (.int f), .val (.int g), .val (.int l1), .unset, .unset, .unset, .unset, .unset, .unset, .unset, .unset, .unset, .unset, .unset, .unset, .unset, .unset, .unset, .unset, .unset] [(.int ((lens.toUInt32 >>> ((8 : Int32) &&& 31).toUInt32).toInt32))])
  refine Win.st ?_ (X0.ldcInt hx hown (mvT hZ (hw _ (List.mem_of_getElem? (i := 0) rfl))) (g := (mkF mt 48 #[.val (.int chars), .val (.int sel), .val (.int lens), .val (.int o), .val (.int c), .val (.int f), .val (.int g), .val (.int l1), .unset, .unset, .unset, .unset, .unset, .unset, .unset, .unset, .unset, .unset, .unset, .unset, .unset, .unset, .unset, .unset, .unset] [(.int ((lens.toUInt32 >>> ((8 : Int32) &&& 31).toUInt32).toInt32))])) rfl (hb hby at_48))
  show Win p e below _ s₁ (mkF mt 50 #[.val (.int chars), .val (.int sel), .val (.int lens), .val (.int o), .val (.int c), .val (.int f), .val (.int g), .val (.int l1), .unset, .unset, .unset, .unset, .unset, .unset, .unset, .unset, .unset, .unset, .unset, .unset, .unset, .unset, .unset, .unset, .unset] [(.int (2147483647 : Int32)), (.int ((lens.toUInt32 >>> ((8 : Int32) &&& 31).toUInt32).toInt32))])
  refine Win.st ?_ (fun tq kq => XS.iand X0.here hx rfl (hb hby at_50) rfl kq)
  show Win p e below _ s₁ (mkF mt 51 #[.val (.int chars), .val (.int sel), .val (.int lens), .val (.int o), .val (.int c), .val (.int f), .val (.int g), .val (.int l1), .unset, .unset, .unset, .unset, .unset, .unset, .unset, .unset, .unset, .unset, .unset, .unset, .unset, .unset, .unset, .unset, .unset] [(.int (((lens.toUInt32 >>> ((8 : Int32) &&& 31).toUInt32).toInt32) &&& (2147483647 : Int32)))])
  refine Win.st ?_ (fun tq kq => XS.iconst X0.here hx rfl (hb hby at_51) kq)
  show Win p e below _ s₁ (mkF mt 52 #[.val (.int chars), .val (.int sel), .val (.int lens), .val (.int o), .val (.int c), .val (.int f), .val (.int g), .val (.int l1), .unset, .unset, .unset, .unset, .unset, .unset, .unset, .unset, .unset, .unset, .unset, .unset, .unset, .unset, .unset, .unset, .unset] [(.int (5 : Int32)), (.int (((lens.toUInt32 >>> ((8 : Int32) &&& 31).toUInt32).toInt32) &&& (2147483647 : Int32)))])
  refine Win.st ?_ (fun tq kq => iremM X0 hx rfl (hb hby at_52) rfl (by decide) kq)
  show Win p e below _ s₁ (mkF mt 53 #[.val (.int chars), .val (.int sel), .val (.int lens), .val (.int o), .val (.int c), .val (.int f), .val (.int g), .val (.int l1), .unset, .unset, .unset, .unset, .unset, .unset, .unset, .unset, .unset, .unset, .unset, .unset, .unset, .unset, .unset, .unset, .unset] [(.int ((((lens.toUInt32 >>> ((8 : Int32) &&& 31).toUInt32).toInt32) &&& (2147483647 : Int32)) % (5 : Int32)))])
  obtain ⟨l2, hql2⟩ : ∃ z, z = ((((lens.toUInt32 >>> ((8 : Int32) &&& 31).toUInt32).toInt32) &&& (2147483647 : Int32)) % (5 : Int32)) := ⟨_, rfl⟩
  have hl2 : l2 = 0 ∨ l2 = 1 ∨ l2 = 2 ∨ l2 = 3 ∨ l2 = 4 := by rw [hql2]; exact own_five _
  rw [← hql2]
  show Win p e below _ s₁ (mkF mt 53 #[.val (.int chars), .val (.int sel), .val (.int lens), .val (.int o), .val (.int c), .val (.int f), .val (.int g), .val (.int l1), .unset, .unset, .unset, .unset, .unset, .unset, .unset, .unset, .unset, .unset, .unset, .unset, .unset, .unset, .unset, .unset, .unset] [(.int l2)])
  refine Win.st ?_ (fun tq kq => XS.istore X0.here hx rfl (hb hby at_53) rfl (l' := #[.val (.int chars), .val (.int sel), .val (.int lens), .val (.int o), .val (.int c), .val (.int f), .val (.int g), .val (.int l1), .val (.int l2), .unset, .unset, .unset, .unset, .unset, .unset, .unset, .unset, .unset, .unset, .unset, .unset, .unset, .unset, .unset, .unset]) rfl kq)
  show Win p e below _ s₁ (mkF mt 55 #[.val (.int chars), .val (.int sel), .val (.int lens), .val (.int o), .val (.int c), .val (.int f), .val (.int g), .val (.int l1), .val (.int l2), .unset, .unset, .unset, .unset, .unset, .unset, .unset, .unset, .unset, .unset, .unset, .unset, .unset, .unset, .unset, .unset] [])
  refine Win.st ?_ (fun tq kq => XS.iloadN X0.here hx rfl (hb hby at_55) rfl kq)
  show Win p e below _ s₁ (mkF mt 56 #[.val (.int chars), .val (.int sel), .val (.int lens), .val (.int o), .val (.int c), .val (.int f), .val (.int g), .val (.int l1), .val (.int l2), .unset, .unset, .unset, .unset, .unset, .unset, .unset, .unset, .unset, .unset, .unset, .unset, .unset, .unset, .unset, .unset] [(.int sel)])
  refine Win.st ?_ (fun tq kq => XS.iconst X0.here hx rfl (hb hby at_56) kq)
  show Win p e below _ s₁ (mkF mt 57 #[.val (.int chars), .val (.int sel), .val (.int lens), .val (.int o), .val (.int c), .val (.int f), .val (.int g), .val (.int l1), .val (.int l2), .unset, .unset, .unset, .unset, .unset, .unset, .unset, .unset, .unset, .unset, .unset, .unset, .unset, .unset, .unset, .unset] [(.int (0 : Int32)), (.int sel)])
  refine Win.st ?_ (fun tq kq => XS.iloadN X0.here hx rfl (hb hby at_57) rfl kq)
  show Win p e below _ s₁ (mkF mt 58 #[.val (.int chars), .val (.int sel), .val (.int lens), .val (.int o), .val (.int c), .val (.int f), .val (.int g), .val (.int l1), .val (.int l2), .unset, .unset, .unset, .unset, .unset, .unset, .unset, .unset, .unset, .unset, .unset, .unset, .unset, .unset, .unset, .unset] [(.int o), (.int (0 : Int32)), (.int sel)])
  refine Win.st ?_ (fun tq kq => XS.iload X0.here hx rfl (hb hby at_58) rfl kq)
  show Win p e below _ s₁ (mkF mt 60 #[.val (.int chars), .val (.int sel), .val (.int lens), .val (.int o), .val (.int c), .val (.int f), .val (.int g), .val (.int l1), .val (.int l2), .unset, .unset, .unset, .unset, .unset, .unset, .unset, .unset, .unset, .unset, .unset, .unset, .unset, .unset, .unset, .unset] [(.int c), (.int o), (.int (0 : Int32)), (.int sel)])
  refine Win.st ?_ (fun tq kq => XS.iload X0.here hx rfl (hb hby at_60) rfl kq)
  show Win p e below _ s₁ (mkF mt 62 #[.val (.int chars), .val (.int sel), .val (.int lens), .val (.int o), .val (.int c), .val (.int f), .val (.int g), .val (.int l1), .val (.int l2), .unset, .unset, .unset, .unset, .unset, .unset, .unset, .unset, .unset, .unset, .unset, .unset, .unset, .unset, .unset, .unset] [(.int f), (.int c), (.int o), (.int (0 : Int32)), (.int sel)])
  refine Win.st ?_ (fun tq kq => XS.iload X0.here hx rfl (hb hby at_62) rfl kq)
  show Win p e below _ s₁ (mkF mt 64 #[.val (.int chars), .val (.int sel), .val (.int lens), .val (.int o), .val (.int c), .val (.int f), .val (.int g), .val (.int l1), .val (.int l2), .unset, .unset, .unset, .unset, .unset, .unset, .unset, .unset, .unset, .unset, .unset, .unset, .unset, .unset, .unset, .unset] [(.int g), (.int f), (.int c), (.int o), (.int (0 : Int32)), (.int sel)])
  obtain ⟨v179, _, ⟨T179, L179, k179, n179⟩, -, X179, ⟨Lc179, hQ179, l179, y179, z179⟩, st179⟩ := Jvm.LawKit.callS X0 hx (y := (⟨"com/example/modest_tableau/modesttableau/document/BracketDepthAddPinLaw", "pick", "(IIIIII)I"⟩ : MethodName)) hown (mvT hZ (hw _ (List.mem_of_getElem? (i := 1) rfl))) (mvT hZ (hw _ (List.mem_of_getElem? (i := 2) rfl))) (mvT hZ (hw _ (List.mem_of_getElem? (i := 3) rfl))) (mvT hZ (hw _ (List.mem_of_getElem? (i := 4) rfl))) (by decide) (backOf (W := 0) (rm_pick l Z a0 hw [] sel (0 : Int32) o c f g h0 n0 Z0 ) hZ (hw _ (List.mem_of_getElem? (i := 4) rfl)) (hw _ (List.mem_of_getElem? (i := 3) rfl)) (by decide) (by decide)) (g := (mkF mt 64 #[.val (.int chars), .val (.int sel), .val (.int lens), .val (.int o), .val (.int c), .val (.int f), .val (.int g), .val (.int l1), .val (.int l2), .unset, .unset, .unset, .unset, .unset, .unset, .unset, .unset, .unset, .unset, .unset, .unset, .unset, .unset, .unset, .unset] [(.int g), (.int f), (.int c), (.int o), (.int (0 : Int32)), (.int sel)])) rfl (by rw [hml]; rfl) (argsL := [(.int sel), (.int (0 : Int32)), (.int o), (.int c), (.int f), (.int g)]) (rest := []) (lenOf pd_13 rfl) rfl (by show 2 * 0 + _ ≤ _; exact Nat.le_of_eq rfl) (hb hby at_64) (fun _ _ => ⟨rfl, e0, (by decide : 0 + 0 ≤ _), (by decide : 0 + 0 ≤ _)⟩)
  dsimp only [Pt.U, Pt.locs, Pt.cells, Pt.slots] at X179 l179 y179 z179 st179 hQ179
  subst y179 z179
  replace X179 : Stand p l e _ s mt args below meth cd T179 L179 0 0 := X179
  obtain ⟨h179, e179⟩ : ∃ z, T179.heap = z := ⟨_, rfl⟩
  rw [e179] at hQ179
  obtain ⟨rfl, Nq179, eh179⟩ := hQ179
  have N179 : Fr n0 L179 := by rw [l179]; exact Fr.app N0 Nq179
  rw [eh179] at e179
  refine Win.st ?_ st179
  show Win p e below _ T179 (mkF mt 67 #[.val (.int chars), .val (.int sel), .val (.int lens), .val (.int o), .val (.int c), .val (.int f), .val (.int g), .val (.int l1), .val (.int l2), .unset, .unset, .unset, .unset, .unset, .unset, .unset, .unset, .unset, .unset, .unset, .unset, .unset, .unset, .unset, .unset] [(.int (own_pick sel (0 : Int32) o c f g))])
  obtain ⟨v0, hqv0⟩ : ∃ z, z = (own_pick sel (0 : Int32) o c f g) := ⟨_, rfl⟩
  have hv0 : own_B v0 := by rw [hqv0]; exact own_pickB ho hc hf hg
  rw [← hqv0]
  show Win p e below _ T179 (mkF mt 67 #[.val (.int chars), .val (.int sel), .val (.int lens), .val (.int o), .val (.int c), .val (.int f), .val (.int g), .val (.int l1), .val (.int l2), .unset, .unset, .unset, .unset, .unset, .unset, .unset, .unset, .unset, .unset, .unset, .unset, .unset, .unset, .unset, .unset] [(.int v0)])
  refine Win.st ?_ (fun tq kq => XS.istore X179.here hx rfl (hb hby at_67) rfl (l' := #[.val (.int chars), .val (.int sel), .val (.int lens), .val (.int o), .val (.int c), .val (.int f), .val (.int g), .val (.int l1), .val (.int l2), .val (.int v0), .unset, .unset, .unset, .unset, .unset, .unset, .unset, .unset, .unset, .unset, .unset, .unset, .unset, .unset, .unset]) rfl kq)
  show Win p e below _ T179 (mkF mt 69 #[.val (.int chars), .val (.int sel), .val (.int lens), .val (.int o), .val (.int c), .val (.int f), .val (.int g), .val (.int l1), .val (.int l2), .val (.int v0), .unset, .unset, .unset, .unset, .unset, .unset, .unset, .unset, .unset, .unset, .unset, .unset, .unset, .unset, .unset] [])
  refine Win.st ?_ (fun tq kq => XS.iloadN X179.here hx rfl (hb hby at_69) rfl kq)
  show Win p e below _ T179 (mkF mt 70 #[.val (.int chars), .val (.int sel), .val (.int lens), .val (.int o), .val (.int c), .val (.int f), .val (.int g), .val (.int l1), .val (.int l2), .val (.int v0), .unset, .unset, .unset, .unset, .unset, .unset, .unset, .unset, .unset, .unset, .unset, .unset, .unset, .unset, .unset] [(.int sel)])
  refine Win.st ?_ (fun tq kq => XS.iconst X179.here hx rfl (hb hby at_70) kq)
  show Win p e below _ T179 (mkF mt 71 #[.val (.int chars), .val (.int sel), .val (.int lens), .val (.int o), .val (.int c), .val (.int f), .val (.int g), .val (.int l1), .val (.int l2), .val (.int v0), .unset, .unset, .unset, .unset, .unset, .unset, .unset, .unset, .unset, .unset, .unset, .unset, .unset, .unset, .unset] [(.int (1 : Int32)), (.int sel)])
  refine Win.st ?_ (fun tq kq => XS.iloadN X179.here hx rfl (hb hby at_71) rfl kq)
  show Win p e below _ T179 (mkF mt 72 #[.val (.int chars), .val (.int sel), .val (.int lens), .val (.int o), .val (.int c), .val (.int f), .val (.int g), .val (.int l1), .val (.int l2), .val (.int v0), .unset, .unset, .unset, .unset, .unset, .unset, .unset, .unset, .unset, .unset, .unset, .unset, .unset, .unset, .unset] [(.int o), (.int (1 : Int32)), (.int sel)])
  refine Win.st ?_ (fun tq kq => XS.iload X179.here hx rfl (hb hby at_72) rfl kq)
  show Win p e below _ T179 (mkF mt 74 #[.val (.int chars), .val (.int sel), .val (.int lens), .val (.int o), .val (.int c), .val (.int f), .val (.int g), .val (.int l1), .val (.int l2), .val (.int v0), .unset, .unset, .unset, .unset, .unset, .unset, .unset, .unset, .unset, .unset, .unset, .unset, .unset, .unset, .unset] [(.int c), (.int o), (.int (1 : Int32)), (.int sel)])
  refine Win.st ?_ (fun tq kq => XS.iload X179.here hx rfl (hb hby at_74) rfl kq)
  show Win p e below _ T179 (mkF mt 76 #[.val (.int chars), .val (.int sel), .val (.int lens), .val (.int o), .val (.int c), .val (.int f), .val (.int g), .val (.int l1), .val (.int l2), .val (.int v0), .unset, .unset, .unset, .unset, .unset, .unset, .unset, .unset, .unset, .unset, .unset, .unset, .unset, .unset, .unset] [(.int f), (.int c), (.int o), (.int (1 : Int32)), (.int sel)])
  refine Win.st ?_ (fun tq kq => XS.iload X179.here hx rfl (hb hby at_76) rfl kq)
  show Win p e below _ T179 (mkF mt 78 #[.val (.int chars), .val (.int sel), .val (.int lens), .val (.int o), .val (.int c), .val (.int f), .val (.int g), .val (.int l1), .val (.int l2), .val (.int v0), .unset, .unset, .unset, .unset, .unset, .unset, .unset, .unset, .unset, .unset, .unset, .unset, .unset, .unset, .unset] [(.int g), (.int f), (.int c), (.int o), (.int (1 : Int32)), (.int sel)])
  obtain ⟨v180, _, ⟨T180, L180, k180, n180⟩, -, X180, ⟨Lc180, hQ180, l180, y180, z180⟩, st180⟩ := Jvm.LawKit.callS X179 hx (y := (⟨"com/example/modest_tableau/modesttableau/document/BracketDepthAddPinLaw", "pick", "(IIIIII)I"⟩ : MethodName)) hown (mvT hZ (hw _ (List.mem_of_getElem? (i := 1) rfl))) (mvT hZ (hw _ (List.mem_of_getElem? (i := 2) rfl))) (mvT hZ (hw _ (List.mem_of_getElem? (i := 3) rfl))) (mvT hZ (hw _ (List.mem_of_getElem? (i := 4) rfl))) (by decide) (backOf (W := 0) (rm_pick l Z a0 hw [] sel (1 : Int32) o c f g h0 n0 Z0 ) hZ (hw _ (List.mem_of_getElem? (i := 4) rfl)) (hw _ (List.mem_of_getElem? (i := 3) rfl)) (by decide) (by decide)) (g := (mkF mt 78 #[.val (.int chars), .val (.int sel), .val (.int lens), .val (.int o), .val (.int c), .val (.int f), .val (.int g), .val (.int l1), .val (.int l2), .val (.int v0), .unset, .unset, .unset, .unset, .unset, .unset, .unset, .unset, .unset, .unset, .unset, .unset, .unset, .unset, .unset] [(.int g), (.int f), (.int c), (.int o), (.int (1 : Int32)), (.int sel)])) rfl (by rw [hml]; rfl) (argsL := [(.int sel), (.int (1 : Int32)), (.int o), (.int c), (.int f), (.int g)]) (rest := []) (lenOf pd_13 rfl) rfl (by show 2 * 0 + _ ≤ _; exact Nat.le_of_eq rfl) (hb hby at_78) (fun _ _ => ⟨rfl, e179, (by decide : 0 + 0 ≤ _), (by decide : 0 + 0 ≤ _)⟩)
  dsimp only [Pt.U, Pt.locs, Pt.cells, Pt.slots] at X180 l180 y180 z180 st180 hQ180
  subst y180 z180
  replace X180 : Stand p l e _ s mt args below meth cd T180 L180 0 0 := X180
  obtain ⟨h180, e180⟩ : ∃ z, T180.heap = z := ⟨_, rfl⟩
  rw [e180] at hQ180
  obtain ⟨rfl, Nq180, eh180⟩ := hQ180
  have N180 : Fr n0 L180 := by rw [l180]; exact Fr.app N179 Nq180
  rw [eh180] at e180
  refine Win.st ?_ st180
  show Win p e below _ T180 (mkF mt 81 #[.val (.int chars), .val (.int sel), .val (.int lens), .val (.int o), .val (.int c), .val (.int f), .val (.int g), .val (.int l1), .val (.int l2), .val (.int v0), .unset, .unset, .unset, .unset, .unset, .unset, .unset, .unset, .unset, .unset, .unset, .unset, .unset, .unset, .unset] [(.int (own_pick sel (1 : Int32) o c f g))])
  obtain ⟨v1, hqv1⟩ : ∃ z, z = (own_pick sel (1 : Int32) o c f g) := ⟨_, rfl⟩
  have hv1 : own_B v1 := by rw [hqv1]; exact own_pickB ho hc hf hg
  rw [← hqv1]
  show Win p e below _ T180 (mkF mt 81 #[.val (.int chars), .val (.int sel), .val (.int lens), .val (.int o), .val (.int c), .val (.int f), .val (.int g), .val (.int l1), .val (.int l2), .val (.int v0), .unset, .unset, .unset, .unset, .unset, .unset, .unset, .unset, .unset, .unset, .unset, .unset, .unset, .unset, .unset] [(.int v1)])
  refine Win.st ?_ (fun tq kq => XS.istore X180.here hx rfl (hb hby at_81) rfl (l' := #[.val (.int chars), .val (.int sel), .val (.int lens), .val (.int o), .val (.int c), .val (.int f), .val (.int g), .val (.int l1), .val (.int l2), .val (.int v0), .val (.int v1), .unset, .unset, .unset, .unset, .unset, .unset, .unset, .unset, .unset, .unset, .unset, .unset, .unset, .unset]) rfl kq)
  show Win p e below _ T180 (mkF mt 83 #[.val (.int chars), .val (.int sel), .val (.int lens), .val (.int o), .val (.int c), .val (.int f), .val (.int g), .val (.int l1), .val (.int l2), .val (.int v0), .val (.int v1), .unset, .unset, .unset, .unset, .unset, .unset, .unset, .unset, .unset, .unset, .unset, .unset, .unset, .unset] [])
  refine Win.st ?_ (fun tq kq => XS.iloadN X180.here hx rfl (hb hby at_83) rfl kq)
  show Win p e below _ T180 (mkF mt 84 #[.val (.int chars), .val (.int sel), .val (.int lens), .val (.int o), .val (.int c), .val (.int f), .val (.int g), .val (.int l1), .val (.int l2), .val (.int v0), .val (.int v1), .unset, .unset, .unset, .unset, .unset, .unset, .unset, .unset, .unset, .unset, .unset, .unset, .unset, .unset] [(.int sel)])
  refine Win.st ?_ (fun tq kq => XS.iconst X180.here hx rfl (hb hby at_84) kq)
  show Win p e below _ T180 (mkF mt 85 #[.val (.int chars), .val (.int sel), .val (.int lens), .val (.int o), .val (.int c), .val (.int f), .val (.int g), .val (.int l1), .val (.int l2), .val (.int v0), .val (.int v1), .unset, .unset, .unset, .unset, .unset, .unset, .unset, .unset, .unset, .unset, .unset, .unset, .unset, .unset] [(.int (2 : Int32)), (.int sel)])
  refine Win.st ?_ (fun tq kq => XS.iloadN X180.here hx rfl (hb hby at_85) rfl kq)
  show Win p e below _ T180 (mkF mt 86 #[.val (.int chars), .val (.int sel), .val (.int lens), .val (.int o), .val (.int c), .val (.int f), .val (.int g), .val (.int l1), .val (.int l2), .val (.int v0), .val (.int v1), .unset, .unset, .unset, .unset, .unset, .unset, .unset, .unset, .unset, .unset, .unset, .unset, .unset, .unset] [(.int o), (.int (2 : Int32)), (.int sel)])
  refine Win.st ?_ (fun tq kq => XS.iload X180.here hx rfl (hb hby at_86) rfl kq)
  show Win p e below _ T180 (mkF mt 88 #[.val (.int chars), .val (.int sel), .val (.int lens), .val (.int o), .val (.int c), .val (.int f), .val (.int g), .val (.int l1), .val (.int l2), .val (.int v0), .val (.int v1), .unset, .unset, .unset, .unset, .unset, .unset, .unset, .unset, .unset, .unset, .unset, .unset, .unset, .unset] [(.int c), (.int o), (.int (2 : Int32)), (.int sel)])
  refine Win.st ?_ (fun tq kq => XS.iload X180.here hx rfl (hb hby at_88) rfl kq)
  show Win p e below _ T180 (mkF mt 90 #[.val (.int chars), .val (.int sel), .val (.int lens), .val (.int o), .val (.int c), .val (.int f), .val (.int g), .val (.int l1), .val (.int l2), .val (.int v0), .val (.int v1), .unset, .unset, .unset, .unset, .unset, .unset, .unset, .unset, .unset, .unset, .unset, .unset, .unset, .unset] [(.int f), (.int c), (.int o), (.int (2 : Int32)), (.int sel)])
  refine Win.st ?_ (fun tq kq => XS.iload X180.here hx rfl (hb hby at_90) rfl kq)
  show Win p e below _ T180 (mkF mt 92 #[.val (.int chars), .val (.int sel), .val (.int lens), .val (.int o), .val (.int c), .val (.int f), .val (.int g), .val (.int l1), .val (.int l2), .val (.int v0), .val (.int v1), .unset, .unset, .unset, .unset, .unset, .unset, .unset, .unset, .unset, .unset, .unset, .unset, .unset, .unset] [(.int g), (.int f), (.int c), (.int o), (.int (2 : Int32)), (.int sel)])
  obtain ⟨v181, _, ⟨T181, L181, k181, n181⟩, -, X181, ⟨Lc181, hQ181, l181, y181, z181⟩, st181⟩ := Jvm.LawKit.callS X180 hx (y := (⟨"com/example/modest_tableau/modesttableau/document/BracketDepthAddPinLaw", "pick", "(IIIIII)I"⟩ : MethodName)) hown (mvT hZ (hw _ (List.mem_of_getElem? (i := 1) rfl))) (mvT hZ (hw _ (List.mem_of_getElem? (i := 2) rfl))) (mvT hZ (hw _ (List.mem_of_getElem? (i := 3) rfl))) (mvT hZ (hw _ (List.mem_of_getElem? (i := 4) rfl))) (by decide) (backOf (W := 0) (rm_pick l Z a0 hw [] sel (2 : Int32) o c f g h0 n0 Z0 ) hZ (hw _ (List.mem_of_getElem? (i := 4) rfl)) (hw _ (List.mem_of_getElem? (i := 3) rfl)) (by decide) (by decide)) (g := (mkF mt 92 #[.val (.int chars), .val (.int sel), .val (.int lens), .val (.int o), .val (.int c), .val (.int f), .val (.int g), .val (.int l1), .val (.int l2), .val (.int v0), .val (.int v1), .unset, .unset, .unset, .unset, .unset, .unset, .unset, .unset, .unset, .unset, .unset, .unset, .unset, .unset] [(.int g), (.int f), (.int c), (.int o), (.int (2 : Int32)), (.int sel)])) rfl (by rw [hml]; rfl) (argsL := [(.int sel), (.int (2 : Int32)), (.int o), (.int c), (.int f), (.int g)]) (rest := []) (lenOf pd_13 rfl) rfl (by show 2 * 0 + _ ≤ _; exact Nat.le_of_eq rfl) (hb hby at_92) (fun _ _ => ⟨rfl, e180, (by decide : 0 + 0 ≤ _), (by decide : 0 + 0 ≤ _)⟩)
  dsimp only [Pt.U, Pt.locs, Pt.cells, Pt.slots] at X181 l181 y181 z181 st181 hQ181
  subst y181 z181
  replace X181 : Stand p l e _ s mt args below meth cd T181 L181 0 0 := X181
  obtain ⟨h181, e181⟩ : ∃ z, T181.heap = z := ⟨_, rfl⟩
  rw [e181] at hQ181
  obtain ⟨rfl, Nq181, eh181⟩ := hQ181
  have N181 : Fr n0 L181 := by rw [l181]; exact Fr.app N180 Nq181
  rw [eh181] at e181
  refine Win.st ?_ st181
  show Win p e below _ T181 (mkF mt 95 #[.val (.int chars), .val (.int sel), .val (.int lens), .val (.int o), .val (.int c), .val (.int f), .val (.int g), .val (.int l1), .val (.int l2), .val (.int v0), .val (.int v1), .unset, .unset, .unset, .unset, .unset, .unset, .unset, .unset, .unset, .unset, .unset, .unset, .unset, .unset] [(.int (own_pick sel (2 : Int32) o c f g))])
  obtain ⟨v2, hqv2⟩ : ∃ z, z = (own_pick sel (2 : Int32) o c f g) := ⟨_, rfl⟩
  have hv2 : own_B v2 := by rw [hqv2]; exact own_pickB ho hc hf hg
  rw [← hqv2]
  show Win p e below _ T181 (mkF mt 95 #[.val (.int chars), .val (.int sel), .val (.int lens), .val (.int o), .val (.int c), .val (.int f), .val (.int g), .val (.int l1), .val (.int l2), .val (.int v0), .val (.int v1), .unset, .unset, .unset, .unset, .unset, .unset, .unset, .unset, .unset, .unset, .unset, .unset, .unset, .unset] [(.int v2)])
  refine Win.st ?_ (fun tq kq => XS.istore X181.here hx rfl (hb hby at_95) rfl (l' := #[.val (.int chars), .val (.int sel), .val (.int lens), .val (.int o), .val (.int c), .val (.int f), .val (.int g), .val (.int l1), .val (.int l2), .val (.int v0), .val (.int v1), .val (.int v2), .unset, .unset, .unset, .unset, .unset, .unset, .unset, .unset, .unset, .unset, .unset, .unset, .unset]) rfl kq)
  show Win p e below _ T181 (mkF mt 97 #[.val (.int chars), .val (.int sel), .val (.int lens), .val (.int o), .val (.int c), .val (.int f), .val (.int g), .val (.int l1), .val (.int l2), .val (.int v0), .val (.int v1), .val (.int v2), .unset, .unset, .unset, .unset, .unset, .unset, .unset, .unset, .unset, .unset, .unset, .unset, .unset] [])
  refine Win.st ?_ (fun tq kq => XS.iloadN X181.here hx rfl (hb hby at_97) rfl kq)
  show Win p e below _ T181 (mkF mt 98 #[.val (.int chars), .val (.int sel), .val (.int lens), .val (.int o), .val (.int c), .val (.int f), .val (.int g), .val (.int l1), .val (.int l2), .val (.int v0), .val (.int v1), .val (.int v2), .unset, .unset, .unset, .unset, .unset, .unset, .unset, .unset, .unset, .unset, .unset, .unset, .unset] [(.int sel)])
  refine Win.st ?_ (fun tq kq => XS.iconst X181.here hx rfl (hb hby at_98) kq)
  show Win p e below _ T181 (mkF mt 99 #[.val (.int chars), .val (.int sel), .val (.int lens), .val (.int o), .val (.int c), .val (.int f), .val (.int g), .val (.int l1), .val (.int l2), .val (.int v0), .val (.int v1), .val (.int v2), .unset, .unset, .unset, .unset, .unset, .unset, .unset, .unset, .unset, .unset, .unset, .unset, .unset] [(.int (3 : Int32)), (.int sel)])
  refine Win.st ?_ (fun tq kq => XS.iloadN X181.here hx rfl (hb hby at_99) rfl kq)
  show Win p e below _ T181 (mkF mt 100 #[.val (.int chars), .val (.int sel), .val (.int lens), .val (.int o), .val (.int c), .val (.int f), .val (.int g), .val (.int l1), .val (.int l2), .val (.int v0), .val (.int v1), .val (.int v2), .unset, .unset, .unset, .unset, .unset, .unset, .unset, .unset, .unset, .unset, .unset, .unset, .unset] [(.int o), (.int (3 : Int32)), (.int sel)])
  refine Win.st ?_ (fun tq kq => XS.iload X181.here hx rfl (hb hby at_100) rfl kq)
  show Win p e below _ T181 (mkF mt 102 #[.val (.int chars), .val (.int sel), .val (.int lens), .val (.int o), .val (.int c), .val (.int f), .val (.int g), .val (.int l1), .val (.int l2), .val (.int v0), .val (.int v1), .val (.int v2), .unset, .unset, .unset, .unset, .unset, .unset, .unset, .unset, .unset, .unset, .unset, .unset, .unset] [(.int c), (.int o), (.int (3 : Int32)), (.int sel)])
  refine Win.st ?_ (fun tq kq => XS.iload X181.here hx rfl (hb hby at_102) rfl kq)
  show Win p e below _ T181 (mkF mt 104 #[.val (.int chars), .val (.int sel), .val (.int lens), .val (.int o), .val (.int c), .val (.int f), .val (.int g), .val (.int l1), .val (.int l2), .val (.int v0), .val (.int v1), .val (.int v2), .unset, .unset, .unset, .unset, .unset, .unset, .unset, .unset, .unset, .unset, .unset, .unset, .unset] [(.int f), (.int c), (.int o), (.int (3 : Int32)), (.int sel)])
  refine Win.st ?_ (fun tq kq => XS.iload X181.here hx rfl (hb hby at_104) rfl kq)
  show Win p e below _ T181 (mkF mt 106 #[.val (.int chars), .val (.int sel), .val (.int lens), .val (.int o), .val (.int c), .val (.int f), .val (.int g), .val (.int l1), .val (.int l2), .val (.int v0), .val (.int v1), .val (.int v2), .unset, .unset, .unset, .unset, .unset, .unset, .unset, .unset, .unset, .unset, .unset, .unset, .unset] [(.int g), (.int f), (.int c), (.int o), (.int (3 : Int32)), (.int sel)])
  obtain ⟨v182, _, ⟨T182, L182, k182, n182⟩, -, X182, ⟨Lc182, hQ182, l182, y182, z182⟩, st182⟩ := Jvm.LawKit.callS X181 hx (y := (⟨"com/example/modest_tableau/modesttableau/document/BracketDepthAddPinLaw", "pick", "(IIIIII)I"⟩ : MethodName)) hown (mvT hZ (hw _ (List.mem_of_getElem? (i := 1) rfl))) (mvT hZ (hw _ (List.mem_of_getElem? (i := 2) rfl))) (mvT hZ (hw _ (List.mem_of_getElem? (i := 3) rfl))) (mvT hZ (hw _ (List.mem_of_getElem? (i := 4) rfl))) (by decide) (backOf (W := 0) (rm_pick l Z a0 hw [] sel (3 : Int32) o c f g h0 n0 Z0 ) hZ (hw _ (List.mem_of_getElem? (i := 4) rfl)) (hw _ (List.mem_of_getElem? (i := 3) rfl)) (by decide) (by decide)) (g := (mkF mt 106 #[.val (.int chars), .val (.int sel), .val (.int lens), .val (.int o), .val (.int c), .val (.int f), .val (.int g), .val (.int l1), .val (.int l2), .val (.int v0), .val (.int v1), .val (.int v2), .unset, .unset, .unset, .unset, .unset, .unset, .unset, .unset, .unset, .unset, .unset, .unset, .unset] [(.int g), (.int f), (.int c), (.int o), (.int (3 : Int32)), (.int sel)])) rfl (by rw [hml]; rfl) (argsL := [(.int sel), (.int (3 : Int32)), (.int o), (.int c), (.int f), (.int g)]) (rest := []) (lenOf pd_13 rfl) rfl (by show 2 * 0 + _ ≤ _; exact Nat.le_of_eq rfl) (hb hby at_106) (fun _ _ => ⟨rfl, e181, (by decide : 0 + 0 ≤ _), (by decide : 0 + 0 ≤ _)⟩)
  dsimp only [Pt.U, Pt.locs, Pt.cells, Pt.slots] at X182 l182 y182 z182 st182 hQ182
  subst y182 z182
  replace X182 : Stand p l e _ s mt args below meth cd T182 L182 0 0 := X182
  obtain ⟨h182, e182⟩ : ∃ z, T182.heap = z := ⟨_, rfl⟩
  rw [e182] at hQ182
  obtain ⟨rfl, Nq182, eh182⟩ := hQ182
  have N182 : Fr n0 L182 := by rw [l182]; exact Fr.app N181 Nq182
  rw [eh182] at e182
  refine Win.st ?_ st182
  show Win p e below _ T182 (mkF mt 109 #[.val (.int chars), .val (.int sel), .val (.int lens), .val (.int o), .val (.int c), .val (.int f), .val (.int g), .val (.int l1), .val (.int l2), .val (.int v0), .val (.int v1), .val (.int v2), .unset, .unset, .unset, .unset, .unset, .unset, .unset, .unset, .unset, .unset, .unset, .unset, .unset] [(.int (own_pick sel (3 : Int32) o c f g))])
  obtain ⟨v3, hqv3⟩ : ∃ z, z = (own_pick sel (3 : Int32) o c f g) := ⟨_, rfl⟩
  have hv3 : own_B v3 := by rw [hqv3]; exact own_pickB ho hc hf hg
  rw [← hqv3]
  show Win p e below _ T182 (mkF mt 109 #[.val (.int chars), .val (.int sel), .val (.int lens), .val (.int o), .val (.int c), .val (.int f), .val (.int g), .val (.int l1), .val (.int l2), .val (.int v0), .val (.int v1), .val (.int v2), .unset, .unset, .unset, .unset, .unset, .unset, .unset, .unset, .unset, .unset, .unset, .unset, .unset] [(.int v3)])
  refine Win.st ?_ (fun tq kq => XS.istore X182.here hx rfl (hb hby at_109) rfl (l' := #[.val (.int chars), .val (.int sel), .val (.int lens), .val (.int o), .val (.int c), .val (.int f), .val (.int g), .val (.int l1), .val (.int l2), .val (.int v0), .val (.int v1), .val (.int v2), .val (.int v3), .unset, .unset, .unset, .unset, .unset, .unset, .unset, .unset, .unset, .unset, .unset, .unset]) rfl kq)
  show Win p e below _ T182 (mkF mt 111 #[.val (.int chars), .val (.int sel), .val (.int lens), .val (.int o), .val (.int c), .val (.int f), .val (.int g), .val (.int l1), .val (.int l2), .val (.int v0), .val (.int v1), .val (.int v2), .val (.int v3), .unset, .unset, .unset, .unset, .unset, .unset, .unset, .unset, .unset, .unset, .unset, .unset] [])
  refine Win.st ?_ (fun tq kq => XS.iloadN X182.here hx rfl (hb hby at_111) rfl kq)
  show Win p e below _ T182 (mkF mt 112 #[.val (.int chars), .val (.int sel), .val (.int lens), .val (.int o), .val (.int c), .val (.int f), .val (.int g), .val (.int l1), .val (.int l2), .val (.int v0), .val (.int v1), .val (.int v2), .val (.int v3), .unset, .unset, .unset, .unset, .unset, .unset, .unset, .unset, .unset, .unset, .unset, .unset] [(.int sel)])
  refine Win.st ?_ (fun tq kq => XS.iconst X182.here hx rfl (hb hby at_112) kq)
  show Win p e below _ T182 (mkF mt 113 #[.val (.int chars), .val (.int sel), .val (.int lens), .val (.int o), .val (.int c), .val (.int f), .val (.int g), .val (.int l1), .val (.int l2), .val (.int v0), .val (.int v1), .val (.int v2), .val (.int v3), .unset, .unset, .unset, .unset, .unset, .unset, .unset, .unset, .unset, .unset, .unset, .unset] [(.int (4 : Int32)), (.int sel)])
  refine Win.st ?_ (fun tq kq => XS.iloadN X182.here hx rfl (hb hby at_113) rfl kq)
  show Win p e below _ T182 (mkF mt 114 #[.val (.int chars), .val (.int sel), .val (.int lens), .val (.int o), .val (.int c), .val (.int f), .val (.int g), .val (.int l1), .val (.int l2), .val (.int v0), .val (.int v1), .val (.int v2), .val (.int v3), .unset, .unset, .unset, .unset, .unset, .unset, .unset, .unset, .unset, .unset, .unset, .unset] [(.int o), (.int (4 : Int32)), (.int sel)])
  refine Win.st ?_ (fun tq kq => XS.iload X182.here hx rfl (hb hby at_114) rfl kq)
  show Win p e below _ T182 (mkF mt 116 #[.val (.int chars), .val (.int sel), .val (.int lens), .val (.int o), .val (.int c), .val (.int f), .val (.int g), .val (.int l1), .val (.int l2), .val (.int v0), .val (.int v1), .val (.int v2), .val (.int v3), .unset, .unset, .unset, .unset, .unset, .unset, .unset, .unset, .unset, .unset, .unset, .unset] [(.int c), (.int o), (.int (4 : Int32)), (.int sel)])
  refine Win.st ?_ (fun tq kq => XS.iload X182.here hx rfl (hb hby at_116) rfl kq)
  show Win p e below _ T182 (mkF mt 118 #[.val (.int chars), .val (.int sel), .val (.int lens), .val (.int o), .val (.int c), .val (.int f), .val (.int g), .val (.int l1), .val (.int l2), .val (.int v0), .val (.int v1), .val (.int v2), .val (.int v3), .unset, .unset, .unset, .unset, .unset, .unset, .unset, .unset, .unset, .unset, .unset, .unset] [(.int f), (.int c), (.int o), (.int (4 : Int32)), (.int sel)])
  refine Win.st ?_ (fun tq kq => XS.iload X182.here hx rfl (hb hby at_118) rfl kq)
  show Win p e below _ T182 (mkF mt 120 #[.val (.int chars), .val (.int sel), .val (.int lens), .val (.int o), .val (.int c), .val (.int f), .val (.int g), .val (.int l1), .val (.int l2), .val (.int v0), .val (.int v1), .val (.int v2), .val (.int v3), .unset, .unset, .unset, .unset, .unset, .unset, .unset, .unset, .unset, .unset, .unset, .unset] [(.int g), (.int f), (.int c), (.int o), (.int (4 : Int32)), (.int sel)])
  obtain ⟨v183, _, ⟨T183, L183, k183, n183⟩, -, X183, ⟨Lc183, hQ183, l183, y183, z183⟩, st183⟩ := Jvm.LawKit.callS X182 hx (y := (⟨"com/example/modest_tableau/modesttableau/document/BracketDepthAddPinLaw", "pick", "(IIIIII)I"⟩ : MethodName)) hown (mvT hZ (hw _ (List.mem_of_getElem? (i := 1) rfl))) (mvT hZ (hw _ (List.mem_of_getElem? (i := 2) rfl))) (mvT hZ (hw _ (List.mem_of_getElem? (i := 3) rfl))) (mvT hZ (hw _ (List.mem_of_getElem? (i := 4) rfl))) (by decide) (backOf (W := 0) (rm_pick l Z a0 hw [] sel (4 : Int32) o c f g h0 n0 Z0 ) hZ (hw _ (List.mem_of_getElem? (i := 4) rfl)) (hw _ (List.mem_of_getElem? (i := 3) rfl)) (by decide) (by decide)) (g := (mkF mt 120 #[.val (.int chars), .val (.int sel), .val (.int lens), .val (.int o), .val (.int c), .val (.int f), .val (.int g), .val (.int l1), .val (.int l2), .val (.int v0), .val (.int v1), .val (.int v2), .val (.int v3), .unset, .unset, .unset, .unset, .unset, .unset, .unset, .unset, .unset, .unset, .unset, .unset] [(.int g), (.int f), (.int c), (.int o), (.int (4 : Int32)), (.int sel)])) rfl (by rw [hml]; rfl) (argsL := [(.int sel), (.int (4 : Int32)), (.int o), (.int c), (.int f), (.int g)]) (rest := []) (lenOf pd_13 rfl) rfl (by show 2 * 0 + _ ≤ _; exact Nat.le_of_eq rfl) (hb hby at_120) (fun _ _ => ⟨rfl, e182, (by decide : 0 + 0 ≤ _), (by decide : 0 + 0 ≤ _)⟩)
  dsimp only [Pt.U, Pt.locs, Pt.cells, Pt.slots] at X183 l183 y183 z183 st183 hQ183
  subst y183 z183
  replace X183 : Stand p l e _ s mt args below meth cd T183 L183 0 0 := X183
  obtain ⟨h183, e183⟩ : ∃ z, T183.heap = z := ⟨_, rfl⟩
  rw [e183] at hQ183
  obtain ⟨rfl, Nq183, eh183⟩ := hQ183
  have N183 : Fr n0 L183 := by rw [l183]; exact Fr.app N182 Nq183
  rw [eh183] at e183
  refine Win.st ?_ st183
  show Win p e below _ T183 (mkF mt 123 #[.val (.int chars), .val (.int sel), .val (.int lens), .val (.int o), .val (.int c), .val (.int f), .val (.int g), .val (.int l1), .val (.int l2), .val (.int v0), .val (.int v1), .val (.int v2), .val (.int v3), .unset, .unset, .unset, .unset, .unset, .unset, .unset, .unset, .unset, .unset, .unset, .unset] [(.int (own_pick sel (4 : Int32) o c f g))])
  obtain ⟨v4, hqv4⟩ : ∃ z, z = (own_pick sel (4 : Int32) o c f g) := ⟨_, rfl⟩
  have hv4 : own_B v4 := by rw [hqv4]; exact own_pickB ho hc hf hg
  rw [← hqv4]
  show Win p e below _ T183 (mkF mt 123 #[.val (.int chars), .val (.int sel), .val (.int lens), .val (.int o), .val (.int c), .val (.int f), .val (.int g), .val (.int l1), .val (.int l2), .val (.int v0), .val (.int v1), .val (.int v2), .val (.int v3), .unset, .unset, .unset, .unset, .unset, .unset, .unset, .unset, .unset, .unset, .unset, .unset] [(.int v4)])
  refine Win.st ?_ (fun tq kq => XS.istore X183.here hx rfl (hb hby at_123) rfl (l' := #[.val (.int chars), .val (.int sel), .val (.int lens), .val (.int o), .val (.int c), .val (.int f), .val (.int g), .val (.int l1), .val (.int l2), .val (.int v0), .val (.int v1), .val (.int v2), .val (.int v3), .val (.int v4), .unset, .unset, .unset, .unset, .unset, .unset, .unset, .unset, .unset, .unset, .unset]) rfl kq)
  show Win p e below _ T183 (mkF mt 125 #[.val (.int chars), .val (.int sel), .val (.int lens), .val (.int o), .val (.int c), .val (.int f), .val (.int g), .val (.int l1), .val (.int l2), .val (.int v0), .val (.int v1), .val (.int v2), .val (.int v3), .val (.int v4), .unset, .unset, .unset, .unset, .unset, .unset, .unset, .unset, .unset, .unset, .unset] [])
  refine Win.st ?_ (fun tq kq => XS.iloadN X183.here hx rfl (hb hby at_125) rfl kq)
  show Win p e below _ T183 (mkF mt 126 #[.val (.int chars), .val (.int sel), .val (.int lens), .val (.int o), .val (.int c), .val (.int f), .val (.int g), .val (.int l1), .val (.int l2), .val (.int v0), .val (.int v1), .val (.int v2), .val (.int v3), .val (.int v4), .unset, .unset, .unset, .unset, .unset, .unset, .unset, .unset, .unset, .unset, .unset] [(.int sel)])
  refine Win.st ?_ (fun tq kq => XS.iconst X183.here hx rfl (hb hby at_126) kq)
  show Win p e below _ T183 (mkF mt 127 #[.val (.int chars), .val (.int sel), .val (.int lens), .val (.int o), .val (.int c), .val (.int f), .val (.int g), .val (.int l1), .val (.int l2), .val (.int v0), .val (.int v1), .val (.int v2), .val (.int v3), .val (.int v4), .unset, .unset, .unset, .unset, .unset, .unset, .unset, .unset, .unset, .unset, .unset] [(.int (5 : Int32)), (.int sel)])
  refine Win.st ?_ (fun tq kq => XS.iloadN X183.here hx rfl (hb hby at_127) rfl kq)
  show Win p e below _ T183 (mkF mt 128 #[.val (.int chars), .val (.int sel), .val (.int lens), .val (.int o), .val (.int c), .val (.int f), .val (.int g), .val (.int l1), .val (.int l2), .val (.int v0), .val (.int v1), .val (.int v2), .val (.int v3), .val (.int v4), .unset, .unset, .unset, .unset, .unset, .unset, .unset, .unset, .unset, .unset, .unset] [(.int o), (.int (5 : Int32)), (.int sel)])
  refine Win.st ?_ (fun tq kq => XS.iload X183.here hx rfl (hb hby at_128) rfl kq)
  show Win p e below _ T183 (mkF mt 130 #[.val (.int chars), .val (.int sel), .val (.int lens), .val (.int o), .val (.int c), .val (.int f), .val (.int g), .val (.int l1), .val (.int l2), .val (.int v0), .val (.int v1), .val (.int v2), .val (.int v3), .val (.int v4), .unset, .unset, .unset, .unset, .unset, .unset, .unset, .unset, .unset, .unset, .unset] [(.int c), (.int o), (.int (5 : Int32)), (.int sel)])
  refine Win.st ?_ (fun tq kq => XS.iload X183.here hx rfl (hb hby at_130) rfl kq)
  show Win p e below _ T183 (mkF mt 132 #[.val (.int chars), .val (.int sel), .val (.int lens), .val (.int o), .val (.int c), .val (.int f), .val (.int g), .val (.int l1), .val (.int l2), .val (.int v0), .val (.int v1), .val (.int v2), .val (.int v3), .val (.int v4), .unset, .unset, .unset, .unset, .unset, .unset, .unset, .unset, .unset, .unset, .unset] [(.int f), (.int c), (.int o), (.int (5 : Int32)), (.int sel)])
  refine Win.st ?_ (fun tq kq => XS.iload X183.here hx rfl (hb hby at_132) rfl kq)
  show Win p e below _ T183 (mkF mt 134 #[.val (.int chars), .val (.int sel), .val (.int lens), .val (.int o), .val (.int c), .val (.int f), .val (.int g), .val (.int l1), .val (.int l2), .val (.int v0), .val (.int v1), .val (.int v2), .val (.int v3), .val (.int v4), .unset, .unset, .unset, .unset, .unset, .unset, .unset, .unset, .unset, .unset, .unset] [(.int g), (.int f), (.int c), (.int o), (.int (5 : Int32)), (.int sel)])
  obtain ⟨v184, _, ⟨T184, L184, k184, n184⟩, -, X184, ⟨Lc184, hQ184, l184, y184, z184⟩, st184⟩ := Jvm.LawKit.callS X183 hx (y := (⟨"com/example/modest_tableau/modesttableau/document/BracketDepthAddPinLaw", "pick", "(IIIIII)I"⟩ : MethodName)) hown (mvT hZ (hw _ (List.mem_of_getElem? (i := 1) rfl))) (mvT hZ (hw _ (List.mem_of_getElem? (i := 2) rfl))) (mvT hZ (hw _ (List.mem_of_getElem? (i := 3) rfl))) (mvT hZ (hw _ (List.mem_of_getElem? (i := 4) rfl))) (by decide) (backOf (W := 0) (rm_pick l Z a0 hw [] sel (5 : Int32) o c f g h0 n0 Z0 ) hZ (hw _ (List.mem_of_getElem? (i := 4) rfl)) (hw _ (List.mem_of_getElem? (i := 3) rfl)) (by decide) (by decide)) (g := (mkF mt 134 #[.val (.int chars), .val (.int sel), .val (.int lens), .val (.int o), .val (.int c), .val (.int f), .val (.int g), .val (.int l1), .val (.int l2), .val (.int v0), .val (.int v1), .val (.int v2), .val (.int v3), .val (.int v4), .unset, .unset, .unset, .unset, .unset, .unset, .unset, .unset, .unset, .unset, .unset] [(.int g), (.int f), (.int c), (.int o), (.int (5 : Int32)), (.int sel)])) rfl (by rw [hml]; rfl) (argsL := [(.int sel), (.int (5 : Int32)), (.int o), (.int c), (.int f), (.int g)]) (rest := []) (lenOf pd_13 rfl) rfl (by show 2 * 0 + _ ≤ _; exact Nat.le_of_eq rfl) (hb hby at_134) (fun _ _ => ⟨rfl, e183, (by decide : 0 + 0 ≤ _), (by decide : 0 + 0 ≤ _)⟩)
  dsimp only [Pt.U, Pt.locs, Pt.cells, Pt.slots] at X184 l184 y184 z184 st184 hQ184
  subst y184 z184
  replace X184 : Stand p l e _ s mt args below meth cd T184 L184 0 0 := X184
  obtain ⟨h184, e184⟩ : ∃ z, T184.heap = z := ⟨_, rfl⟩
  rw [e184] at hQ184
  obtain ⟨rfl, Nq184, eh184⟩ := hQ184
  have N184 : Fr n0 L184 := by rw [l184]; exact Fr.app N183 Nq184
  rw [eh184] at e184
  refine Win.st ?_ st184
  show Win p e below _ T184 (mkF mt 137 #[.val (.int chars), .val (.int sel), .val (.int lens), .val (.int o), .val (.int c), .val (.int f), .val (.int g), .val (.int l1), .val (.int l2), .val (.int v0), .val (.int v1), .val (.int v2), .val (.int v3), .val (.int v4), .unset, .unset, .unset, .unset, .unset, .unset, .unset, .unset, .unset, .unset, .unset] [(.int (own_pick sel (5 : Int32) o c f g))])
  obtain ⟨v5, hqv5⟩ : ∃ z, z = (own_pick sel (5 : Int32) o c f g) := ⟨_, rfl⟩
  have hv5 : own_B v5 := by rw [hqv5]; exact own_pickB ho hc hf hg
  rw [← hqv5]
  show Win p e below _ T184 (mkF mt 137 #[.val (.int chars), .val (.int sel), .val (.int lens), .val (.int o), .val (.int c), .val (.int f), .val (.int g), .val (.int l1), .val (.int l2), .val (.int v0), .val (.int v1), .val (.int v2), .val (.int v3), .val (.int v4), .unset, .unset, .unset, .unset, .unset, .unset, .unset, .unset, .unset, .unset, .unset] [(.int v5)])
  refine Win.st ?_ (fun tq kq => XS.istore X184.here hx rfl (hb hby at_137) rfl (l' := #[.val (.int chars), .val (.int sel), .val (.int lens), .val (.int o), .val (.int c), .val (.int f), .val (.int g), .val (.int l1), .val (.int l2), .val (.int v0), .val (.int v1), .val (.int v2), .val (.int v3), .val (.int v4), .val (.int v5), .unset, .unset, .unset, .unset, .unset, .unset, .unset, .unset, .unset, .unset]) rfl kq)
  show Win p e below _ T184 (mkF mt 139 #[.val (.int chars), .val (.int sel), .val (.int lens), .val (.int o), .val (.int c), .val (.int f), .val (.int g), .val (.int l1), .val (.int l2), .val (.int v0), .val (.int v1), .val (.int v2), .val (.int v3), .val (.int v4), .val (.int v5), .unset, .unset, .unset, .unset, .unset, .unset, .unset, .unset, .unset, .unset] [])
  refine Win.st ?_ (fun tq kq => XS.iloadN X184.here hx rfl (hb hby at_139) rfl kq)
  show Win p e below _ T184 (mkF mt 140 #[.val (.int chars), .val (.int sel), .val (.int lens), .val (.int o), .val (.int c), .val (.int f), .val (.int g), .val (.int l1), .val (.int l2), .val (.int v0), .val (.int v1), .val (.int v2), .val (.int v3), .val (.int v4), .val (.int v5), .unset, .unset, .unset, .unset, .unset, .unset, .unset, .unset, .unset, .unset] [(.int sel)])
  refine Win.st ?_ (fun tq kq => XS.bipush X184.here hx rfl (hb hby at_140) kq)
  show Win p e below _ T184 (mkF mt 142 #[.val (.int chars), .val (.int sel), .val (.int lens), .val (.int o), .val (.int c), .val (.int f), .val (.int g), .val (.int l1), .val (.int l2), .val (.int v0), .val (.int v1), .val (.int v2), .val (.int v3), .val (.int v4), .val (.int v5), .unset, .unset, .unset, .unset, .unset, .unset, .unset, .unset, .unset, .unset] [(.int (6 : Int32)), (.int sel)])
  refine Win.st ?_ (fun tq kq => XS.iloadN X184.here hx rfl (hb hby at_142) rfl kq)
  show Win p e below _ T184 (mkF mt 143 #[.val (.int chars), .val (.int sel), .val (.int lens), .val (.int o), .val (.int c), .val (.int f), .val (.int g), .val (.int l1), .val (.int l2), .val (.int v0), .val (.int v1), .val (.int v2), .val (.int v3), .val (.int v4), .val (.int v5), .unset, .unset, .unset, .unset, .unset, .unset, .unset, .unset, .unset, .unset] [(.int o), (.int (6 : Int32)), (.int sel)])
  refine Win.st ?_ (fun tq kq => XS.iload X184.here hx rfl (hb hby at_143) rfl kq)
  show Win p e below _ T184 (mkF mt 145 #[.val (.int chars), .val (.int sel), .val (.int lens), .val (.int o), .val (.int c), .val (.int f), .val (.int g), .val (.int l1), .val (.int l2), .val (.int v0), .val (.int v1), .val (.int v2), .val (.int v3), .val (.int v4), .val (.int v5), .unset, .unset, .unset, .unset, .unset, .unset, .unset, .unset, .unset, .unset] [(.int c), (.int o), (.int (6 : Int32)), (.int sel)])
  refine Win.st ?_ (fun tq kq => XS.iload X184.here hx rfl (hb hby at_145) rfl kq)
  show Win p e below _ T184 (mkF mt 147 #[.val (.int chars), .val (.int sel), .val (.int lens), .val (.int o), .val (.int c), .val (.int f), .val (.int g), .val (.int l1), .val (.int l2), .val (.int v0), .val (.int v1), .val (.int v2), .val (.int v3), .val (.int v4), .val (.int v5), .unset, .unset, .unset, .unset, .unset, .unset, .unset, .unset, .unset, .unset] [(.int f), (.int c), (.int o), (.int (6 : Int32)), (.int sel)])
  refine Win.st ?_ (fun tq kq => XS.iload X184.here hx rfl (hb hby at_147) rfl kq)
  show Win p e below _ T184 (mkF mt 149 #[.val (.int chars), .val (.int sel), .val (.int lens), .val (.int o), .val (.int c), .val (.int f), .val (.int g), .val (.int l1), .val (.int l2), .val (.int v0), .val (.int v1), .val (.int v2), .val (.int v3), .val (.int v4), .val (.int v5), .unset, .unset, .unset, .unset, .unset, .unset, .unset, .unset, .unset, .unset] [(.int g), (.int f), (.int c), (.int o), (.int (6 : Int32)), (.int sel)])
  obtain ⟨v185, _, ⟨T185, L185, k185, n185⟩, -, X185, ⟨Lc185, hQ185, l185, y185, z185⟩, st185⟩ := Jvm.LawKit.callS X184 hx (y := (⟨"com/example/modest_tableau/modesttableau/document/BracketDepthAddPinLaw", "pick", "(IIIIII)I"⟩ : MethodName)) hown (mvT hZ (hw _ (List.mem_of_getElem? (i := 1) rfl))) (mvT hZ (hw _ (List.mem_of_getElem? (i := 2) rfl))) (mvT hZ (hw _ (List.mem_of_getElem? (i := 3) rfl))) (mvT hZ (hw _ (List.mem_of_getElem? (i := 4) rfl))) (by decide) (backOf (W := 0) (rm_pick l Z a0 hw [] sel (6 : Int32) o c f g h0 n0 Z0 ) hZ (hw _ (List.mem_of_getElem? (i := 4) rfl)) (hw _ (List.mem_of_getElem? (i := 3) rfl)) (by decide) (by decide)) (g := (mkF mt 149 #[.val (.int chars), .val (.int sel), .val (.int lens), .val (.int o), .val (.int c), .val (.int f), .val (.int g), .val (.int l1), .val (.int l2), .val (.int v0), .val (.int v1), .val (.int v2), .val (.int v3), .val (.int v4), .val (.int v5), .unset, .unset, .unset, .unset, .unset, .unset, .unset, .unset, .unset, .unset] [(.int g), (.int f), (.int c), (.int o), (.int (6 : Int32)), (.int sel)])) rfl (by rw [hml]; rfl) (argsL := [(.int sel), (.int (6 : Int32)), (.int o), (.int c), (.int f), (.int g)]) (rest := []) (lenOf pd_13 rfl) rfl (by show 2 * 0 + _ ≤ _; exact Nat.le_of_eq rfl) (hb hby at_149) (fun _ _ => ⟨rfl, e184, (by decide : 0 + 0 ≤ _), (by decide : 0 + 0 ≤ _)⟩)
  dsimp only [Pt.U, Pt.locs, Pt.cells, Pt.slots] at X185 l185 y185 z185 st185 hQ185
  subst y185 z185
  replace X185 : Stand p l e _ s mt args below meth cd T185 L185 0 0 := X185
  obtain ⟨h185, e185⟩ : ∃ z, T185.heap = z := ⟨_, rfl⟩
  rw [e185] at hQ185
  obtain ⟨rfl, Nq185, eh185⟩ := hQ185
  have N185 : Fr n0 L185 := by rw [l185]; exact Fr.app N184 Nq185
  rw [eh185] at e185
  refine Win.st ?_ st185
  show Win p e below _ T185 (mkF mt 152 #[.val (.int chars), .val (.int sel), .val (.int lens), .val (.int o), .val (.int c), .val (.int f), .val (.int g), .val (.int l1), .val (.int l2), .val (.int v0), .val (.int v1), .val (.int v2), .val (.int v3), .val (.int v4), .val (.int v5), .unset, .unset, .unset, .unset, .unset, .unset, .unset, .unset, .unset, .unset] [(.int (own_pick sel (6 : Int32) o c f g))])
  obtain ⟨v6, hqv6⟩ : ∃ z, z = (own_pick sel (6 : Int32) o c f g) := ⟨_, rfl⟩
  have hv6 : own_B v6 := by rw [hqv6]; exact own_pickB ho hc hf hg
  rw [← hqv6]
  show Win p e below _ T185 (mkF mt 152 #[.val (.int chars), .val (.int sel), .val (.int lens), .val (.int o), .val (.int c), .val (.int f), .val (.int g), .val (.int l1), .val (.int l2), .val (.int v0), .val (.int v1), .val (.int v2), .val (.int v3), .val (.int v4), .val (.int v5), .unset, .unset, .unset, .unset, .unset, .unset, .unset, .unset, .unset, .unset] [(.int v6)])
  refine Win.st ?_ (fun tq kq => XS.istore X185.here hx rfl (hb hby at_152) rfl (l' := #[.val (.int chars), .val (.int sel), .val (.int lens), .val (.int o), .val (.int c), .val (.int f), .val (.int g), .val (.int l1), .val (.int l2), .val (.int v0), .val (.int v1), .val (.int v2), .val (.int v3), .val (.int v4), .val (.int v5), .val (.int v6), .unset, .unset, .unset, .unset, .unset, .unset, .unset, .unset, .unset]) rfl kq)
  show Win p e below _ T185 (mkF mt 154 #[.val (.int chars), .val (.int sel), .val (.int lens), .val (.int o), .val (.int c), .val (.int f), .val (.int g), .val (.int l1), .val (.int l2), .val (.int v0), .val (.int v1), .val (.int v2), .val (.int v3), .val (.int v4), .val (.int v5), .val (.int v6), .unset, .unset, .unset, .unset, .unset, .unset, .unset, .unset, .unset] [])
  refine Win.st ?_ (fun tq kq => XS.iloadN X185.here hx rfl (hb hby at_154) rfl kq)
  show Win p e below _ T185 (mkF mt 155 #[.val (.int chars), .val (.int sel), .val (.int lens), .val (.int o), .val (.int c), .val (.int f), .val (.int g), .val (.int l1), .val (.int l2), .val (.int v0), .val (.int v1), .val (.int v2), .val (.int v3), .val (.int v4), .val (.int v5), .val (.int v6), .unset, .unset, .unset, .unset, .unset, .unset, .unset, .unset, .unset] [(.int sel)])
  refine Win.st ?_ (fun tq kq => XS.bipush X185.here hx rfl (hb hby at_155) kq)
  show Win p e below _ T185 (mkF mt 157 #[.val (.int chars), .val (.int sel), .val (.int lens), .val (.int o), .val (.int c), .val (.int f), .val (.int g), .val (.int l1), .val (.int l2), .val (.int v0), .val (.int v1), .val (.int v2), .val (.int v3), .val (.int v4), .val (.int v5), .val (.int v6), .unset, .unset, .unset, .unset, .unset, .unset, .unset, .unset, .unset] [(.int (7 : Int32)), (.int sel)])
  refine Win.st ?_ (fun tq kq => XS.iloadN X185.here hx rfl (hb hby at_157) rfl kq)
  show Win p e below _ T185 (mkF mt 158 #[.val (.int chars), .val (.int sel), .val (.int lens), .val (.int o), .val (.int c), .val (.int f), .val (.int g), .val (.int l1), .val (.int l2), .val (.int v0), .val (.int v1), .val (.int v2), .val (.int v3), .val (.int v4), .val (.int v5), .val (.int v6), .unset, .unset, .unset, .unset, .unset, .unset, .unset, .unset, .unset] [(.int o), (.int (7 : Int32)), (.int sel)])
  refine Win.st ?_ (fun tq kq => XS.iload X185.here hx rfl (hb hby at_158) rfl kq)
  show Win p e below _ T185 (mkF mt 160 #[.val (.int chars), .val (.int sel), .val (.int lens), .val (.int o), .val (.int c), .val (.int f), .val (.int g), .val (.int l1), .val (.int l2), .val (.int v0), .val (.int v1), .val (.int v2), .val (.int v3), .val (.int v4), .val (.int v5), .val (.int v6), .unset, .unset, .unset, .unset, .unset, .unset, .unset, .unset, .unset] [(.int c), (.int o), (.int (7 : Int32)), (.int sel)])
  refine Win.st ?_ (fun tq kq => XS.iload X185.here hx rfl (hb hby at_160) rfl kq)
  show Win p e below _ T185 (mkF mt 162 #[.val (.int chars), .val (.int sel), .val (.int lens), .val (.int o), .val (.int c), .val (.int f), .val (.int g), .val (.int l1), .val (.int l2), .val (.int v0), .val (.int v1), .val (.int v2), .val (.int v3), .val (.int v4), .val (.int v5), .val (.int v6), .unset, .unset, .unset, .unset, .unset, .unset, .unset, .unset, .unset] [(.int f), (.int c), (.int o), (.int (7 : Int32)), (.int sel)])
  refine Win.st ?_ (fun tq kq => XS.iload X185.here hx rfl (hb hby at_162) rfl kq)
  show Win p e below _ T185 (mkF mt 164 #[.val (.int chars), .val (.int sel), .val (.int lens), .val (.int o), .val (.int c), .val (.int f), .val (.int g), .val (.int l1), .val (.int l2), .val (.int v0), .val (.int v1), .val (.int v2), .val (.int v3), .val (.int v4), .val (.int v5), .val (.int v6), .unset, .unset, .unset, .unset, .unset, .unset, .unset, .unset, .unset] [(.int g), (.int f), (.int c), (.int o), (.int (7 : Int32)), (.int sel)])
  obtain ⟨v186, _, ⟨T186, L186, k186, n186⟩, -, X186, ⟨Lc186, hQ186, l186, y186, z186⟩, st186⟩ := Jvm.LawKit.callS X185 hx (y := (⟨"com/example/modest_tableau/modesttableau/document/BracketDepthAddPinLaw", "pick", "(IIIIII)I"⟩ : MethodName)) hown (mvT hZ (hw _ (List.mem_of_getElem? (i := 1) rfl))) (mvT hZ (hw _ (List.mem_of_getElem? (i := 2) rfl))) (mvT hZ (hw _ (List.mem_of_getElem? (i := 3) rfl))) (mvT hZ (hw _ (List.mem_of_getElem? (i := 4) rfl))) (by decide) (backOf (W := 0) (rm_pick l Z a0 hw [] sel (7 : Int32) o c f g h0 n0 Z0 ) hZ (hw _ (List.mem_of_getElem? (i := 4) rfl)) (hw _ (List.mem_of_getElem? (i := 3) rfl)) (by decide) (by decide)) (g := (mkF mt 164 #[.val (.int chars), .val (.int sel), .val (.int lens), .val (.int o), .val (.int c), .val (.int f), .val (.int g), .val (.int l1), .val (.int l2), .val (.int v0), .val (.int v1), .val (.int v2), .val (.int v3), .val (.int v4), .val (.int v5), .val (.int v6), .unset, .unset, .unset, .unset, .unset, .unset, .unset, .unset, .unset] [(.int g), (.int f), (.int c), (.int o), (.int (7 : Int32)), (.int sel)])) rfl (by rw [hml]; rfl) (argsL := [(.int sel), (.int (7 : Int32)), (.int o), (.int c), (.int f), (.int g)]) (rest := []) (lenOf pd_13 rfl) rfl (by show 2 * 0 + _ ≤ _; exact Nat.le_of_eq rfl) (hb hby at_164) (fun _ _ => ⟨rfl, e185, (by decide : 0 + 0 ≤ _), (by decide : 0 + 0 ≤ _)⟩)
  dsimp only [Pt.U, Pt.locs, Pt.cells, Pt.slots] at X186 l186 y186 z186 st186 hQ186
  subst y186 z186
  replace X186 : Stand p l e _ s mt args below meth cd T186 L186 0 0 := X186
  obtain ⟨h186, e186⟩ : ∃ z, T186.heap = z := ⟨_, rfl⟩
  rw [e186] at hQ186
  obtain ⟨rfl, Nq186, eh186⟩ := hQ186
  have N186 : Fr n0 L186 := by rw [l186]; exact Fr.app N185 Nq186
  rw [eh186] at e186
  refine Win.st ?_ st186
  show Win p e below _ T186 (mkF mt 167 #[.val (.int chars), .val (.int sel), .val (.int lens), .val (.int o), .val (.int c), .val (.int f), .val (.int g), .val (.int l1), .val (.int l2), .val (.int v0), .val (.int v1), .val (.int v2), .val (.int v3), .val (.int v4), .val (.int v5), .val (.int v6), .unset, .unset, .unset, .unset, .unset, .unset, .unset, .unset, .unset] [(.int (own_pick sel (7 : Int32) o c f g))])
  obtain ⟨v7, hqv7⟩ : ∃ z, z = (own_pick sel (7 : Int32) o c f g) := ⟨_, rfl⟩
  have hv7 : own_B v7 := by rw [hqv7]; exact own_pickB ho hc hf hg
  rw [← hqv7]
  show Win p e below _ T186 (mkF mt 167 #[.val (.int chars), .val (.int sel), .val (.int lens), .val (.int o), .val (.int c), .val (.int f), .val (.int g), .val (.int l1), .val (.int l2), .val (.int v0), .val (.int v1), .val (.int v2), .val (.int v3), .val (.int v4), .val (.int v5), .val (.int v6), .unset, .unset, .unset, .unset, .unset, .unset, .unset, .unset, .unset] [(.int v7)])
  refine Win.st ?_ (fun tq kq => XS.istore X186.here hx rfl (hb hby at_167) rfl (l' := #[.val (.int chars), .val (.int sel), .val (.int lens), .val (.int o), .val (.int c), .val (.int f), .val (.int g), .val (.int l1), .val (.int l2), .val (.int v0), .val (.int v1), .val (.int v2), .val (.int v3), .val (.int v4), .val (.int v5), .val (.int v6), .val (.int v7), .unset, .unset, .unset, .unset, .unset, .unset, .unset, .unset]) rfl kq)
  show Win p e below _ T186 (mkF mt 169 #[.val (.int chars), .val (.int sel), .val (.int lens), .val (.int o), .val (.int c), .val (.int f), .val (.int g), .val (.int l1), .val (.int l2), .val (.int v0), .val (.int v1), .val (.int v2), .val (.int v3), .val (.int v4), .val (.int v5), .val (.int v6), .val (.int v7), .unset, .unset, .unset, .unset, .unset, .unset, .unset, .unset] [])
  refine Win.st ?_ (fun tq kq => XS.iconst X186.here hx rfl (hb hby at_169) kq)
  show Win p e below _ T186 (mkF mt 170 #[.val (.int chars), .val (.int sel), .val (.int lens), .val (.int o), .val (.int c), .val (.int f), .val (.int g), .val (.int l1), .val (.int l2), .val (.int v0), .val (.int v1), .val (.int v2), .val (.int v3), .val (.int v4), .val (.int v5), .val (.int v6), .val (.int v7), .unset, .unset, .unset, .unset, .unset, .unset, .unset, .unset] [(.int (4 : Int32))])
  obtain ⟨T187, h187, k187, X187, e187, E187, A187, st187⟩ := newP X186 hx hZ (hw _ (List.mem_of_getElem? (i := 5) rfl)) e186 (g := (mkF mt 170 #[.val (.int chars), .val (.int sel), .val (.int lens), .val (.int o), .val (.int c), .val (.int f), .val (.int g), .val (.int l1), .val (.int l2), .val (.int v0), .val (.int v1), .val (.int v2), .val (.int v3), .val (.int v4), .val (.int v5), .val (.int v6), .val (.int v7), .unset, .unset, .unset, .unset, .unset, .unset, .unset, .unset] [(.int (4 : Int32))])) rfl (hb hby at_170) rfl (by decide) (cap := 4) (by decide) (by decide) (by decide) (by decide)
  obtain ⟨b187, gq187⟩ : ∃ z, z = h0.size := ⟨_, rfl⟩
  rw [← gq187] at A187 st187
  have g188 : n0 ≤ b187 := own_newle Z0 gq187
  have ke187 := own_kext E187
  replace X187 : Stand p l e _ s mt args below meth cd T187 _ 1 4 := X187
  have f189_336 := O.keep ke187 all0
  have Z190 : n0 ≤ h187.size := Nat.le_trans Z0 ke187.1
  have V187 : Arv Z h187 b187 k187 .byte (4 : Int32) [(.int (0 : Int32)), (.int (0 : Int32)), (.int (0 : Int32)), (.int (0 : Int32))] (.int (0 : Int32)) := (Arv.new A187 (by decide)).pad (pad_rep [] (.int (0 : Int32)) 4)
  refine Win.st ?_ st187
  show Win p e below _ T187 (mkF mt 172 #[.val (.int chars), .val (.int sel), .val (.int lens), .val (.int o), .val (.int c), .val (.int f), .val (.int g), .val (.int l1), .val (.int l2), .val (.int v0), .val (.int v1), .val (.int v2), .val (.int v3), .val (.int v4), .val (.int v5), .val (.int v6), .val (.int v7), .unset, .unset, .unset, .unset, .unset, .unset, .unset, .unset] [(.ref b187)])
  refine Win.st ?_ (fun tq kq => XS.dup X187.here hx rfl (hb hby at_172) rfl rfl kq)
  show Win p e below _ T187 (mkF mt 173 #[.val (.int chars), .val (.int sel), .val (.int lens), .val (.int o), .val (.int c), .val (.int f), .val (.int g), .val (.int l1), .val (.int l2), .val (.int v0), .val (.int v1), .val (.int v2), .val (.int v3), .val (.int v4), .val (.int v5), .val (.int v6), .val (.int v7), .unset, .unset, .unset, .unset, .unset, .unset, .unset, .unset] [(.ref b187), (.ref b187)])
  refine Win.st ?_ (fun tq kq => XS.iconst X187.here hx rfl (hb hby at_173) kq)
  show Win p e below _ T187 (mkF mt 174 #[.val (.int chars), .val (.int sel), .val (.int lens), .val (.int o), .val (.int c), .val (.int f), .val (.int g), .val (.int l1), .val (.int l2), .val (.int v0), .val (.int v1), .val (.int v2), .val (.int v3), .val (.int v4), .val (.int v5), .val (.int v6), .val (.int v7), .unset, .unset, .unset, .unset, .unset, .unset, .unset, .unset] [(.int (0 : Int32)), (.ref b187), (.ref b187)])
  refine Win.st ?_ (fun tq kq => XS.iload X187.here hx rfl (hb hby at_174) rfl kq)
  show Win p e below _ T187 (mkF mt 176 #[.val (.int chars), .val (.int sel), .val (.int lens), .val (.int o), .val (.int c), .val (.int f), .val (.int g), .val (.int l1), .val (.int l2), .val (.int v0), .val (.int v1), .val (.int v2), .val (.int v3), .val (.int v4), .val (.int v5), .val (.int v6), .val (.int v7), .unset, .unset, .unset, .unset, .unset, .unset, .unset, .unset] [(.int v0), (.int (0 : Int32)), (.ref b187), (.ref b187)])
  refine Win.st ?_ (fun tq kq => XS.i2b X187.here hx rfl (hb hby at_176) rfl kq)
  show Win p e below _ T187 (mkF mt 177 #[.val (.int chars), .val (.int sel), .val (.int lens), .val (.int o), .val (.int c), .val (.int f), .val (.int g), .val (.int l1), .val (.int l2), .val (.int v0), .val (.int v1), .val (.int v2), .val (.int v3), .val (.int v4), .val (.int v5), .val (.int v6), .val (.int v7), .unset, .unset, .unset, .unset, .unset, .unset, .unset, .unset] [(.int (v0.toInt8.toInt32)), (.int (0 : Int32)), (.ref b187), (.ref b187)])
  obtain ⟨T191, h191, L191, X191, N191, e191, kp191, V191, st191⟩ := own_bast (g := (mkF mt 177 #[.val (.int chars), .val (.int sel), .val (.int lens), .val (.int o), .val (.int c), .val (.int f), .val (.int g), .val (.int l1), .val (.int l2), .val (.int v0), .val (.int v1), .val (.int v2), .val (.int v3), .val (.int v4), .val (.int v5), .val (.int v6), .val (.int v7), .unset, .unset, .unset, .unset, .unset, .unset, .unset, .unset] [(.int (v0.toInt8.toInt32)), (.int (0 : Int32)), (.ref b187), (.ref b187)])) X187 hx hZ e187 N186 g188 V187 (j := (0 : Int32)) (by decide) (by decide) (i := 0) rfl (by simp) rfl rfl (hb hby at_177)
  rw [own_b8] at V191
  replace V191 : Arv Z h191 b187 k187 .byte (4 : Int32) ([(.int (v0.toInt8.toInt32)), (.int (0 : Int32)), (.int (0 : Int32)), (.int (0 : Int32))]) (.int (0 : Int32)) := V191
  have f192_352 := f189_336.keep kp191 (allS g188 all0)
  have Z193 : n0 ≤ h191.size := Nat.le_trans Z190 kp191.1
  refine Win.st ?_ st191
  show Win p e below _ T191 (mkF mt 178 #[.val (.int chars), .val (.int sel), .val (.int lens), .val (.int o), .val (.int c), .val (.int f), .val (.int g), .val (.int l1), .val (.int l2), .val (.int v0), .val (.int v1), .val (.int v2), .val (.int v3), .val (.int v4), .val (.int v5), .val (.int v6), .val (.int v7), .unset, .unset, .unset, .unset, .unset, .unset, .unset, .unset] [(.ref b187)])
  refine Win.st ?_ (fun tq kq => XS.dup X191.here hx rfl (hb hby at_178) rfl rfl kq)
  show Win p e below _ T191 (mkF mt 179 #[.val (.int chars), .val (.int sel), .val (.int lens), .val (.int o), .val (.int c), .val (.int f), .val (.int g), .val (.int l1), .val (.int l2), .val (.int v0), .val (.int v1), .val (.int v2), .val (.int v3), .val (.int v4), .val (.int v5), .val (.int v6), .val (.int v7), .unset, .unset, .unset, .unset, .unset, .unset, .unset, .unset] [(.ref b187), (.ref b187)])
  refine Win.st ?_ (fun tq kq => XS.iconst X191.here hx rfl (hb hby at_179) kq)
  show Win p e below _ T191 (mkF mt 180 #[.val (.int chars), .val (.int sel), .val (.int lens), .val (.int o), .val (.int c), .val (.int f), .val (.int g), .val (.int l1), .val (.int l2), .val (.int v0), .val (.int v1), .val (.int v2), .val (.int v3), .val (.int v4), .val (.int v5), .val (.int v6), .val (.int v7), .unset, .unset, .unset, .unset, .unset, .unset, .unset, .unset] [(.int (1 : Int32)), (.ref b187), (.ref b187)])
  refine Win.st ?_ (fun tq kq => XS.iload X191.here hx rfl (hb hby at_180) rfl kq)
  show Win p e below _ T191 (mkF mt 182 #[.val (.int chars), .val (.int sel), .val (.int lens), .val (.int o), .val (.int c), .val (.int f), .val (.int g), .val (.int l1), .val (.int l2), .val (.int v0), .val (.int v1), .val (.int v2), .val (.int v3), .val (.int v4), .val (.int v5), .val (.int v6), .val (.int v7), .unset, .unset, .unset, .unset, .unset, .unset, .unset, .unset] [(.int v1), (.int (1 : Int32)), (.ref b187), (.ref b187)])
  refine Win.st ?_ (fun tq kq => XS.i2b X191.here hx rfl (hb hby at_182) rfl kq)
  show Win p e below _ T191 (mkF mt 183 #[.val (.int chars), .val (.int sel), .val (.int lens), .val (.int o), .val (.int c), .val (.int f), .val (.int g), .val (.int l1), .val (.int l2), .val (.int v0), .val (.int v1), .val (.int v2), .val (.int v3), .val (.int v4), .val (.int v5), .val (.int v6), .val (.int v7), .unset, .unset, .unset, .unset, .unset, .unset, .unset, .unset] [(.int (v1.toInt8.toInt32)), (.int (1 : Int32)), (.ref b187), (.ref b187)])
  obtain ⟨T194, h194, L194, X194, N194, e194, kp194, V194, st194⟩ := own_bast (g := (mkF mt 183 #[.val (.int chars), .val (.int sel), .val (.int lens), .val (.int o), .val (.int c), .val (.int f), .val (.int g), .val (.int l1), .val (.int l2), .val (.int v0), .val (.int v1), .val (.int v2), .val (.int v3), .val (.int v4), .val (.int v5), .val (.int v6), .val (.int v7), .unset, .unset, .unset, .unset, .unset, .unset, .unset, .unset] [(.int (v1.toInt8.toInt32)), (.int (1 : Int32)), (.ref b187), (.ref b187)])) X191 hx hZ e191 N191 g188 V191 (j := (1 : Int32)) (by decide) (by decide) (i := 1) rfl (by simp) rfl rfl (hb hby at_183)
  rw [own_b8] at V194
  replace V194 : Arv Z h194 b187 k187 .byte (4 : Int32) ([(.int (v0.toInt8.toInt32)), (.int (v1.toInt8.toInt32)), (.int (0 : Int32)), (.int (0 : Int32))]) (.int (0 : Int32)) := V194
  have f195_367 := f192_352.keep kp194 (allS g188 all0)
  have Z196 : n0 ≤ h194.size := Nat.le_trans Z193 kp194.1
  refine Win.st ?_ st194
  show Win p e below _ T194 (mkF mt 184 #[.val (.int chars), .val (.int sel), .val (.int lens), .val (.int o), .val (.int c), .val (.int f), .val (.int g), .val (.int l1), .val (.int l2), .val (.int v0), .val (.int v1), .val (.int v2), .val (.int v3), .val (.int v4), .val (.int v5), .val (.int v6), .val (.int v7), .unset, .unset, .unset, .unset, .unset, .unset, .unset, .unset] [(.ref b187)])
  refine Win.st ?_ (fun tq kq => XS.dup X194.here hx rfl (hb hby at_184) rfl rfl kq)
  show Win p e below _ T194 (mkF mt 185 #[.val (.int chars), .val (.int sel), .val (.int lens), .val (.int o), .val (.int c), .val (.int f), .val (.int g), .val (.int l1), .val (.int l2), .val (.int v0), .val (.int v1), .val (.int v2), .val (.int v3), .val (.int v4), .val (.int v5), .val (.int v6), .val (.int v7), .unset, .unset, .unset, .unset, .unset, .unset, .unset, .unset] [(.ref b187), (.ref b187)])
  refine Win.st ?_ (fun tq kq => XS.iconst X194.here hx rfl (hb hby at_185) kq)
  show Win p e below _ T194 (mkF mt 186 #[.val (.int chars), .val (.int sel), .val (.int lens), .val (.int o), .val (.int c), .val (.int f), .val (.int g), .val (.int l1), .val (.int l2), .val (.int v0), .val (.int v1), .val (.int v2), .val (.int v3), .val (.int v4), .val (.int v5), .val (.int v6), .val (.int v7), .unset, .unset, .unset, .unset, .unset, .unset, .unset, .unset] [(.int (2 : Int32)), (.ref b187), (.ref b187)])
  refine Win.st ?_ (fun tq kq => XS.iload X194.here hx rfl (hb hby at_186) rfl kq)
  show Win p e below _ T194 (mkF mt 188 #[.val (.int chars), .val (.int sel), .val (.int lens), .val (.int o), .val (.int c), .val (.int f), .val (.int g), .val (.int l1), .val (.int l2), .val (.int v0), .val (.int v1), .val (.int v2), .val (.int v3), .val (.int v4), .val (.int v5), .val (.int v6), .val (.int v7), .unset, .unset, .unset, .unset, .unset, .unset, .unset, .unset] [(.int v2), (.int (2 : Int32)), (.ref b187), (.ref b187)])
  refine Win.st ?_ (fun tq kq => XS.i2b X194.here hx rfl (hb hby at_188) rfl kq)
  show Win p e below _ T194 (mkF mt 189 #[.val (.int chars), .val (.int sel), .val (.int lens), .val (.int o), .val (.int c), .val (.int f), .val (.int g), .val (.int l1), .val (.int l2), .val (.int v0), .val (.int v1), .val (.int v2), .val (.int v3), .val (.int v4), .val (.int v5), .val (.int v6), .val (.int v7), .unset, .unset, .unset, .unset, .unset, .unset, .unset, .unset] [(.int (v2.toInt8.toInt32)), (.int (2 : Int32)), (.ref b187), (.ref b187)])
  obtain ⟨T197, h197, L197, X197, N197, e197, kp197, V197, st197⟩ := own_bast (g := (mkF mt 189 #[.val (.int chars), .val (.int sel), .val (.int lens), .val (.int o), .val (.int c), .val (.int f), .val (.int g), .val (.int l1), .val (.int l2), .val (.int v0), .val (.int v1), .val (.int v2), .val (.int v3), .val (.int v4), .val (.int v5), .val (.int v6), .val (.int v7), .unset, .unset, .unset, .unset, .unset, .unset, .unset, .unset] [(.int (v2.toInt8.toInt32)), (.int (2 : Int32)), (.ref b187), (.ref b187)])) X194 hx hZ e194 N194 g188 V194 (j := (2 : Int32)) (by decide) (by decide) (i := 2) rfl (by simp) rfl rfl (hb hby at_189)
  rw [own_b8] at V197
  replace V197 : Arv Z h197 b187 k187 .byte (4 : Int32) ([(.int (v0.toInt8.toInt32)), (.int (v1.toInt8.toInt32)), (.int (v2.toInt8.toInt32)), (.int (0 : Int32))]) (.int (0 : Int32)) := V197
  have f198_382 := f195_367.keep kp197 (allS g188 all0)
  have Z199 : n0 ≤ h197.size := Nat.le_trans Z196 kp197.1
  refine Win.st ?_ st197
  show Win p e below _ T197 (mkF mt 190 #[.val (.int chars), .val (.int sel), .val (.int lens), .val (.int o), .val (.int c), .val (.int f), .val (.int g), .val (.int l1), .val (.int l2), .val (.int v0), .val (.int v1), .val (.int v2), .val (.int v3), .val (.int v4), .val (.int v5), .val (.int v6), .val (.int v7), .unset, .unset, .unset, .unset, .unset, .unset, .unset, .unset] [(.ref b187)])
  refine Win.st ?_ (fun tq kq => XS.dup X197.here hx rfl (hb hby at_190) rfl rfl kq)
  show Win p e below _ T197 (mkF mt 191 #[.val (.int chars), .val (.int sel), .val (.int lens), .val (.int o), .val (.int c), .val (.int f), .val (.int g), .val (.int l1), .val (.int l2), .val (.int v0), .val (.int v1), .val (.int v2), .val (.int v3), .val (.int v4), .val (.int v5), .val (.int v6), .val (.int v7), .unset, .unset, .unset, .unset, .unset, .unset, .unset, .unset] [(.ref b187), (.ref b187)])
  refine Win.st ?_ (fun tq kq => XS.iconst X197.here hx rfl (hb hby at_191) kq)
  show Win p e below _ T197 (mkF mt 192 #[.val (.int chars), .val (.int sel), .val (.int lens), .val (.int o), .val (.int c), .val (.int f), .val (.int g), .val (.int l1), .val (.int l2), .val (.int v0), .val (.int v1), .val (.int v2), .val (.int v3), .val (.int v4), .val (.int v5), .val (.int v6), .val (.int v7), .unset, .unset, .unset, .unset, .unset, .unset, .unset, .unset] [(.int (3 : Int32)), (.ref b187), (.ref b187)])
  refine Win.st ?_ (fun tq kq => XS.iload X197.here hx rfl (hb hby at_192) rfl kq)
  show Win p e below _ T197 (mkF mt 194 #[.val (.int chars), .val (.int sel), .val (.int lens), .val (.int o), .val (.int c), .val (.int f), .val (.int g), .val (.int l1), .val (.int l2), .val (.int v0), .val (.int v1), .val (.int v2), .val (.int v3), .val (.int v4), .val (.int v5), .val (.int v6), .val (.int v7), .unset, .unset, .unset, .unset, .unset, .unset, .unset, .unset] [(.int v3), (.int (3 : Int32)), (.ref b187), (.ref b187)])
  refine Win.st ?_ (fun tq kq => XS.i2b X197.here hx rfl (hb hby at_194) rfl kq)
  show Win p e below _ T197 (mkF mt 195 #[.val (.int chars), .val (.int sel), .val (.int lens), .val (.int o), .val (.int c), .val (.int f), .val (.int g), .val (.int l1), .val (.int l2), .val (.int v0), .val (.int v1), .val (.int v2), .val (.int v3), .val (.int v4), .val (.int v5), .val (.int v6), .val (.int v7), .unset, .unset, .unset, .unset, .unset, .unset, .unset, .unset] [(.int (v3.toInt8.toInt32)), (.int (3 : Int32)), (.ref b187), (.ref b187)])
  obtain ⟨T200, h200, L200, X200, N200, e200, kp200, V200, st200⟩ := own_bast (g := (mkF mt 195 #[.val (.int chars), .val (.int sel), .val (.int lens), .val (.int o), .val (.int c), .val (.int f), .val (.int g), .val (.int l1), .val (.int l2), .val (.int v0), .val (.int v1), .val (.int v2), .val (.int v3), .val (.int v4), .val (.int v5), .val (.int v6), .val (.int v7), .unset, .unset, .unset, .unset, .unset, .unset, .unset, .unset] [(.int (v3.toInt8.toInt32)), (.int (3 : Int32)), (.ref b187), (.ref b187)])) X197 hx hZ e197 N197 g188 V197 (j := (3 : Int32)) (by decide) (by decide) (i := 3) rfl (by simp) rfl rfl (hb hby at_195)
  rw [own_b8] at V200
  replace V200 : Arv Z h200 b187 k187 .byte (4 : Int32) ([(.int (v0.toInt8.toInt32)), (.int (v1.toInt8.toInt32)), (.int (v2.toInt8.toInt32)), (.int (v3.toInt8.toInt32))]) (.int (0 : Int32)) := V200
  have f201_397 := f198_382.keep kp200 (allS g188 all0)
  have Z202 : n0 ≤ h200.size := Nat.le_trans Z199 kp200.1
  refine Win.st ?_ st200
  show Win p e below _ T200 (mkF mt 196 #[.val (.int chars), .val (.int sel), .val (.int lens), .val (.int o), .val (.int c), .val (.int f), .val (.int g), .val (.int l1), .val (.int l2), .val (.int v0), .val (.int v1), .val (.int v2), .val (.int v3), .val (.int v4), .val (.int v5), .val (.int v6), .val (.int v7), .unset, .unset, .unset, .unset, .unset, .unset, .unset, .unset] [(.ref b187)])
  refine Win.st ?_ (fun tq kq => XS.astore X200.here hx rfl (hb hby at_196) rfl rfl (l' := #[.val (.int chars), .val (.int sel), .val (.int lens), .val (.int o), .val (.int c), .val (.int f), .val (.int g), .val (.int l1), .val (.int l2), .val (.int v0), .val (.int v1), .val (.int v2), .val (.int v3), .val (.int v4), .val (.int v5), .val (.int v6), .val (.int v7), .val (.ref b187), .unset, .unset, .unset, .unset, .unset, .unset, .unset]) rfl kq)
  show Win p e below _ T200 (mkF mt 198 #[.val (.int chars), .val (.int sel), .val (.int lens), .val (.int o), .val (.int c), .val (.int f), .val (.int g), .val (.int l1), .val (.int l2), .val (.int v0), .val (.int v1), .val (.int v2), .val (.int v3), .val (.int v4), .val (.int v5), .val (.int v6), .val (.int v7), .val (.ref b187), .unset, .unset, .unset, .unset, .unset, .unset, .unset] [])
  refine Win.st ?_ (fun tq kq => XS.iconst X200.here hx rfl (hb hby at_198) kq)
  show Win p e below _ T200 (mkF mt 199 #[.val (.int chars), .val (.int sel), .val (.int lens), .val (.int o), .val (.int c), .val (.int f), .val (.int g), .val (.int l1), .val (.int l2), .val (.int v0), .val (.int v1), .val (.int v2), .val (.int v3), .val (.int v4), .val (.int v5), .val (.int v6), .val (.int v7), .val (.ref b187), .unset, .unset, .unset, .unset, .unset, .unset, .unset] [(.int (4 : Int32))])
  obtain ⟨T203, h203, k203, X203, e203, E203, A203, st203⟩ := newP X200 hx hZ (hw _ (List.mem_of_getElem? (i := 5) rfl)) e200 (g := (mkF mt 199 #[.val (.int chars), .val (.int sel), .val (.int lens), .val (.int o), .val (.int c), .val (.int f), .val (.int g), .val (.int l1), .val (.int l2), .val (.int v0), .val (.int v1), .val (.int v2), .val (.int v3), .val (.int v4), .val (.int v5), .val (.int v6), .val (.int v7), .val (.ref b187), .unset, .unset, .unset, .unset, .unset, .unset, .unset] [(.int (4 : Int32))])) rfl (hb hby at_199) rfl (by decide) (cap := 4) (by decide) (by decide) (by decide) (by decide)
  obtain ⟨b203, gq203⟩ : ∃ z, z = h200.size := ⟨_, rfl⟩
  rw [← gq203] at A203 st203
  have ne204 : b187 ≠ b203 := own_new gq203 V200.lt
  have g205 : n0 ≤ b203 := own_newle Z202 gq203
  have ke203 := own_kext E203
  replace X203 : Stand p l e _ s mt args below meth cd T203 _ 2 8 := X203
  have f206_412 := f201_397.keep ke203 all0
  have f206_413 := V200.keep ke203 nin0
  have Z207 : n0 ≤ h203.size := Nat.le_trans Z202 ke203.1
  have V203 : Arv Z h203 b203 k203 .byte (4 : Int32) [(.int (0 : Int32)), (.int (0 : Int32)), (.int (0 : Int32)), (.int (0 : Int32))] (.int (0 : Int32)) := (Arv.new A203 (by decide)).pad (pad_rep [] (.int (0 : Int32)) 4)
  refine Win.st ?_ st203
  show Win p e below _ T203 (mkF mt 201 #[.val (.int chars), .val (.int sel), .val (.int lens), .val (.int o), .val (.int c), .val (.int f), .val (.int g), .val (.int l1), .val (.int l2), .val (.int v0), .val (.int v1), .val (.int v2), .val (.int v3), .val (.int v4), .val (.int v5), .val (.int v6), .val (.int v7), .val (.ref b187), .unset, .unset, .unset, .unset, .unset, .unset, .unset] [(.ref b203)])
  refine Win.st ?_ (fun tq kq => XS.dup X203.here hx rfl (hb hby at_201) rfl rfl kq)
  show Win p e below _ T203 (mkF mt 202 #[.val (.int chars), .val (.int sel), .val (.int lens), .val (.int o), .val (.int c), .val (.int f), .val (.int g), .val (.int l1), .val (.int l2), .val (.int v0), .val (.int v1), .val (.int v2), .val (.int v3), .val (.int v4), .val (.int v5), .val (.int v6), .val (.int v7), .val (.ref b187), .unset, .unset, .unset, .unset, .unset, .unset, .unset] [(.ref b203), (.ref b203)])
  refine Win.st ?_ (fun tq kq => XS.iconst X203.here hx rfl (hb hby at_202) kq)
  show Win p e below _ T203 (mkF mt 203 #[.val (.int chars), .val (.int sel), .val (.int lens), .val (.int o), .val (.int c), .val (.int f), .val (.int g), .val (.int l1), .val (.int l2), .val (.int v0), .val (.int v1), .val (.int v2), .val (.int v3), .val (.int v4), .val (.int v5), .val (.int v6), .val (.int v7), .val (.ref b187), .unset, .unset, .unset, .unset, .unset, .unset, .unset] [(.int (0 : Int32)), (.ref b203), (.ref b203)])
  refine Win.st ?_ (fun tq kq => XS.iload X203.here hx rfl (hb hby at_203) rfl kq)
  show Win p e below _ T203 (mkF mt 205 #[.val (.int chars), .val (.int sel), .val (.int lens), .val (.int o), .val (.int c), .val (.int f), .val (.int g), .val (.int l1), .val (.int l2), .val (.int v0), .val (.int v1), .val (.int v2), .val (.int v3), .val (.int v4), .val (.int v5), .val (.int v6), .val (.int v7), .val (.ref b187), .unset, .unset, .unset, .unset, .unset, .unset, .unset] [(.int v4), (.int (0 : Int32)), (.ref b203), (.ref b203)])
  refine Win.st ?_ (fun tq kq => XS.i2b X203.here hx rfl (hb hby at_205) rfl kq)
  show Win p e below _ T203 (mkF mt 206 #[.val (.int chars), .val (.int sel), .val (.int lens), .val (.int o), .val (.int c), .val (.int f), .val (.int g), .val (.int l1), .val (.int l2), .val (.int v0), .val (.int v1), .val (.int v2), .val (.int v3), .val (.int v4), .val (.int v5), .val (.int v6), .val (.int v7), .val (.ref b187), .unset, .unset, .unset, .unset, .unset, .unset, .unset] [(.int (v4.toInt8.toInt32)), (.int (0 : Int32)), (.ref b203), (.ref b203)])
  obtain ⟨T208, h208, L208, X208, N208, e208, kp208, V208, st208⟩ := own_bast (g := (mkF mt 206 #[.val (.int chars), .val (.int sel), .val (.int lens), .val (.int o), .val (.int c), .val (.int f), .val (.int g), .val (.int l1), .val (.int l2), .val (.int v0), .val (.int v1), .val (.int v2), .val (.int v3), .val (.int v4), .val (.int v5), .val (.int v6), .val (.int v7), .val (.ref b187), .unset, .unset, .unset, .unset, .unset, .unset, .unset] [(.int (v4.toInt8.toInt32)), (.int (0 : Int32)), (.ref b203), (.ref b203)])) X203 hx hZ e203 N200 g205 V203 (j := (0 : Int32)) (by decide) (by decide) (i := 0) rfl (by simp) rfl rfl (hb hby at_206)
  rw [own_b8] at V208
  replace V208 : Arv Z h208 b203 k203 .byte (4 : Int32) ([(.int (v4.toInt8.toInt32)), (.int (0 : Int32)), (.int (0 : Int32)), (.int (0 : Int32))]) (.int (0 : Int32)) := V208
  have f209_429 := f206_412.keep kp208 (allS g205 all0)
  have f209_430 := f206_413.keep kp208 (ninS ne204 nin0)
  have Z210 : n0 ≤ h208.size := Nat.le_trans Z207 kp208.1
  refine Win.st ?_ st208
  show Win p e below _ T208 (mkF mt 207 #[.val (.int chars), .val (.int sel), .val (.int lens), .val (.int o), .val (.int c), .val (.int f), .val (.int g), .val (.int l1), .val (.int l2), .val (.int v0), .val (.int v1), .val (.int v2), .val (.int v3), .val (.int v4), .val (.int v5), .val (.int v6), .val (.int v7), .val (.ref b187), .unset, .unset, .unset, .unset, .unset, .unset, .unset] [(.ref b203)])
  refine Win.st ?_ (fun tq kq => XS.dup X208.here hx rfl (hb hby at_207) rfl rfl kq)
  show Win p e below _ T208 (mkF mt 208 #[.val (.int chars), .val (.int sel), .val (.int lens), .val (.int o), .val (.int c), .val (.int f), .val (.int g), .val (.int l1), .val (.int l2), .val (.int v0), .val (.int v1), .val (.int v2), .val (.int v3), .val (.int v4), .val (.int v5), .val (.int v6), .val (.int v7), .val (.ref b187), .unset, .unset, .unset, .unset, .unset, .unset, .unset] [(.ref b203), (.ref b203)])
  refine Win.st ?_ (fun tq kq => XS.iconst X208.here hx rfl (hb hby at_208) kq)
  show Win p e below _ T208 (mkF mt 209 #[.val (.int chars), .val (.int sel), .val (.int lens), .val (.int o), .val (.int c), .val (.int f), .val (.int g), .val (.int l1), .val (.int l2), .val (.int v0), .val (.int v1), .val (.int v2), .val (.int v3), .val (.int v4), .val (.int v5), .val (.int v6), .val (.int v7), .val (.ref b187), .unset, .unset, .unset, .unset, .unset, .unset, .unset] [(.int (1 : Int32)), (.ref b203), (.ref b203)])
  refine Win.st ?_ (fun tq kq => XS.iload X208.here hx rfl (hb hby at_209) rfl kq)
  show Win p e below _ T208 (mkF mt 211 #[.val (.int chars), .val (.int sel), .val (.int lens), .val (.int o), .val (.int c), .val (.int f), .val (.int g), .val (.int l1), .val (.int l2), .val (.int v0), .val (.int v1), .val (.int v2), .val (.int v3), .val (.int v4), .val (.int v5), .val (.int v6), .val (.int v7), .val (.ref b187), .unset, .unset, .unset, .unset, .unset, .unset, .unset] [(.int v5), (.int (1 : Int32)), (.ref b203), (.ref b203)])
  refine Win.st ?_ (fun tq kq => XS.i2b X208.here hx rfl (hb hby at_211) rfl kq)
  show Win p e below _ T208 (mkF mt 212 #[.val (.int chars), .val (.int sel), .val (.int lens), .val (.int o), .val (.int c), .val (.int f), .val (.int g), .val (.int l1), .val (.int l2), .val (.int v0), .val (.int v1), .val (.int v2), .val (.int v3), .val (.int v4), .val (.int v5), .val (.int v6), .val (.int v7), .val (.ref b187), .unset, .unset, .unset, .unset, .unset, .unset, .unset] [(.int (v5.toInt8.toInt32)), (.int (1 : Int32)), (.ref b203), (.ref b203)])
  obtain ⟨T211, h211, L211, X211, N211, e211, kp211, V211, st211⟩ := own_bast (g := (mkF mt 212 #[.val (.int chars), .val (.int sel), .val (.int lens), .val (.int o), .val (.int c), .val (.int f), .val (.int g), .val (.int l1), .val (.int l2), .val (.int v0), .val (.int v1), .val (.int v2), .val (.int v3), .val (.int v4), .val (.int v5), .val (.int v6), .val (.int v7), .val (.ref b187), .unset, .unset, .unset, .unset, .unset, .unset, .unset] [(.int (v5.toInt8.toInt32)), (.int (1 : Int32)), (.ref b203), (.ref b203)])) X208 hx hZ e208 N208 g205 V208 (j := (1 : Int32)) (by decide) (by decide) (i := 1) rfl (by simp) rfl rfl (hb hby at_212)
  rw [own_b8] at V211
  replace V211 : Arv Z h211 b203 k203 .byte (4 : Int32) ([(.int (v4.toInt8.toInt32)), (.int (v5.toInt8.toInt32)), (.int (0 : Int32)), (.int (0 : Int32))]) (.int (0 : Int32)) := V211
  have f212_445 := f209_429.keep kp211 (allS g205 all0)
  have f212_446 := f209_430.keep kp211 (ninS ne204 nin0)
  have Z213 : n0 ≤ h211.size := Nat.le_trans Z210 kp211.1
  refine Win.st ?_ st211
  show Win p e below _ T211 (mkF mt 213 #[.val (.int chars), .val (.int sel), .val (.int lens), .val (.int o), .val (.int c), .val (.int f), .val (.int g), .val (.int l1), .val (.int l2), .val (.int v0), .val (.int v1), .val (.int v2), .val (.int v3), .val (.int v4), .val (.int v5), .val (.int v6), .val (.int v7), .val (.ref b187), .unset, .unset, .unset, .unset, .unset, .unset, .unset] [(.ref b203)])
  refine Win.st ?_ (fun tq kq => XS.dup X211.here hx rfl (hb hby at_213) rfl rfl kq)
  show Win p e below _ T211 (mkF mt 214 #[.val (.int chars), .val (.int sel), .val (.int lens), .val (.int o), .val (.int c), .val (.int f), .val (.int g), .val (.int l1), .val (.int l2), .val (.int v0), .val (.int v1), .val (.int v2), .val (.int v3), .val (.int v4), .val (.int v5), .val (.int v6), .val (.int v7), .val (.ref b187), .unset, .unset, .unset, .unset, .unset, .unset, .unset] [(.ref b203), (.ref b203)])
  refine Win.st ?_ (fun tq kq => XS.iconst X211.here hx rfl (hb hby at_214) kq)
  show Win p e below _ T211 (mkF mt 215 #[.val (.int chars), .val (.int sel), .val (.int lens), .val (.int o), .val (.int c), .val (.int f), .val (.int g), .val (.int l1), .val (.int l2), .val (.int v0), .val (.int v1), .val (.int v2), .val (.int v3), .val (.int v4), .val (.int v5), .val (.int v6), .val (.int v7), .val (.ref b187), .unset, .unset, .unset, .unset, .unset, .unset, .unset] [(.int (2 : Int32)), (.ref b203), (.ref b203)])
  refine Win.st ?_ (fun tq kq => XS.iload X211.here hx rfl (hb hby at_215) rfl kq)
  show Win p e below _ T211 (mkF mt 217 #[.val (.int chars), .val (.int sel), .val (.int lens), .val (.int o), .val (.int c), .val (.int f), .val (.int g), .val (.int l1), .val (.int l2), .val (.int v0), .val (.int v1), .val (.int v2), .val (.int v3), .val (.int v4), .val (.int v5), .val (.int v6), .val (.int v7), .val (.ref b187), .unset, .unset, .unset, .unset, .unset, .unset, .unset] [(.int v6), (.int (2 : Int32)), (.ref b203), (.ref b203)])
  refine Win.st ?_ (fun tq kq => XS.i2b X211.here hx rfl (hb hby at_217) rfl kq)
  show Win p e below _ T211 (mkF mt 218 #[.val (.int chars), .val (.int sel), .val (.int lens), .val (.int o), .val (.int c), .val (.int f), .val (.int g), .val (.int l1), .val (.int l2), .val (.int v0), .val (.int v1), .val (.int v2), .val (.int v3), .val (.int v4), .val (.int v5), .val (.int v6), .val (.int v7), .val (.ref b187), .unset, .unset, .unset, .unset, .unset, .unset, .unset] [(.int (v6.toInt8.toInt32)), (.int (2 : Int32)), (.ref b203), (.ref b203)])
  obtain ⟨T214, h214, L214, X214, N214, e214, kp214, V214, st214⟩ := own_bast (g := (mkF mt 218 #[.val (.int chars), .val (.int sel), .val (.int lens), .val (.int o), .val (.int c), .val (.int f), .val (.int g), .val (.int l1), .val (.int l2), .val (.int v0), .val (.int v1), .val (.int v2), .val (.int v3), .val (.int v4), .val (.int v5), .val (.int v6), .val (.int v7), .val (.ref b187), .unset, .unset, .unset, .unset, .unset, .unset, .unset] [(.int (v6.toInt8.toInt32)), (.int (2 : Int32)), (.ref b203), (.ref b203)])) X211 hx hZ e211 N211 g205 V211 (j := (2 : Int32)) (by decide) (by decide) (i := 2) rfl (by simp) rfl rfl (hb hby at_218)
  rw [own_b8] at V214
  replace V214 : Arv Z h214 b203 k203 .byte (4 : Int32) ([(.int (v4.toInt8.toInt32)), (.int (v5.toInt8.toInt32)), (.int (v6.toInt8.toInt32)), (.int (0 : Int32))]) (.int (0 : Int32)) := V214
  have f215_461 := f212_445.keep kp214 (allS g205 all0)
  have f215_462 := f212_446.keep kp214 (ninS ne204 nin0)
  have Z216 : n0 ≤ h214.size := Nat.le_trans Z213 kp214.1
  refine Win.st ?_ st214
  show Win p e below _ T214 (mkF mt 219 #[.val (.int chars), .val (.int sel), .val (.int lens), .val (.int o), .val (.int c), .val (.int f), .val (.int g), .val (.int l1), .val (.int l2), .val (.int v0), .val (.int v1), .val (.int v2), .val (.int v3), .val (.int v4), .val (.int v5), .val (.int v6), .val (.int v7), .val (.ref b187), .unset, .unset, .unset, .unset, .unset, .unset, .unset] [(.ref b203)])
  refine Win.st ?_ (fun tq kq => XS.dup X214.here hx rfl (hb hby at_219) rfl rfl kq)
  show Win p e below _ T214 (mkF mt 220 #[.val (.int chars), .val (.int sel), .val (.int lens), .val (.int o), .val (.int c), .val (.int f), .val (.int g), .val (.int l1), .val (.int l2), .val (.int v0), .val (.int v1), .val (.int v2), .val (.int v3), .val (.int v4), .val (.int v5), .val (.int v6), .val (.int v7), .val (.ref b187), .unset, .unset, .unset, .unset, .unset, .unset, .unset] [(.ref b203), (.ref b203)])
  refine Win.st ?_ (fun tq kq => XS.iconst X214.here hx rfl (hb hby at_220) kq)
  show Win p e below _ T214 (mkF mt 221 #[.val (.int chars), .val (.int sel), .val (.int lens), .val (.int o), .val (.int c), .val (.int f), .val (.int g), .val (.int l1), .val (.int l2), .val (.int v0), .val (.int v1), .val (.int v2), .val (.int v3), .val (.int v4), .val (.int v5), .val (.int v6), .val (.int v7), .val (.ref b187), .unset, .unset, .unset, .unset, .unset, .unset, .unset] [(.int (3 : Int32)), (.ref b203), (.ref b203)])
  refine Win.st ?_ (fun tq kq => XS.iload X214.here hx rfl (hb hby at_221) rfl kq)
  show Win p e below _ T214 (mkF mt 223 #[.val (.int chars), .val (.int sel), .val (.int lens), .val (.int o), .val (.int c), .val (.int f), .val (.int g), .val (.int l1), .val (.int l2), .val (.int v0), .val (.int v1), .val (.int v2), .val (.int v3), .val (.int v4), .val (.int v5), .val (.int v6), .val (.int v7), .val (.ref b187), .unset, .unset, .unset, .unset, .unset, .unset, .unset] [(.int v7), (.int (3 : Int32)), (.ref b203), (.ref b203)])
  refine Win.st ?_ (fun tq kq => XS.i2b X214.here hx rfl (hb hby at_223) rfl kq)
  show Win p e below _ T214 (mkF mt 224 #[.val (.int chars), .val (.int sel), .val (.int lens), .val (.int o), .val (.int c), .val (.int f), .val (.int g), .val (.int l1), .val (.int l2), .val (.int v0), .val (.int v1), .val (.int v2), .val (.int v3), .val (.int v4), .val (.int v5), .val (.int v6), .val (.int v7), .val (.ref b187), .unset, .unset, .unset, .unset, .unset, .unset, .unset] [(.int (v7.toInt8.toInt32)), (.int (3 : Int32)), (.ref b203), (.ref b203)])
  obtain ⟨T217, h217, L217, X217, N217, e217, kp217, V217, st217⟩ := own_bast (g := (mkF mt 224 #[.val (.int chars), .val (.int sel), .val (.int lens), .val (.int o), .val (.int c), .val (.int f), .val (.int g), .val (.int l1), .val (.int l2), .val (.int v0), .val (.int v1), .val (.int v2), .val (.int v3), .val (.int v4), .val (.int v5), .val (.int v6), .val (.int v7), .val (.ref b187), .unset, .unset, .unset, .unset, .unset, .unset, .unset] [(.int (v7.toInt8.toInt32)), (.int (3 : Int32)), (.ref b203), (.ref b203)])) X214 hx hZ e214 N214 g205 V214 (j := (3 : Int32)) (by decide) (by decide) (i := 3) rfl (by simp) rfl rfl (hb hby at_224)
  rw [own_b8] at V217
  replace V217 : Arv Z h217 b203 k203 .byte (4 : Int32) ([(.int (v4.toInt8.toInt32)), (.int (v5.toInt8.toInt32)), (.int (v6.toInt8.toInt32)), (.int (v7.toInt8.toInt32))]) (.int (0 : Int32)) := V217
  have f218_477 := f215_461.keep kp217 (allS g205 all0)
  have f218_478 := f215_462.keep kp217 (ninS ne204 nin0)
  have Z219 : n0 ≤ h217.size := Nat.le_trans Z216 kp217.1
  refine Win.st ?_ st217
  show Win p e below _ T217 (mkF mt 225 #[.val (.int chars), .val (.int sel), .val (.int lens), .val (.int o), .val (.int c), .val (.int f), .val (.int g), .val (.int l1), .val (.int l2), .val (.int v0), .val (.int v1), .val (.int v2), .val (.int v3), .val (.int v4), .val (.int v5), .val (.int v6), .val (.int v7), .val (.ref b187), .unset, .unset, .unset, .unset, .unset, .unset, .unset] [(.ref b203)])
  refine Win.st ?_ (fun tq kq => XS.astore X217.here hx rfl (hb hby at_225) rfl rfl (l' := #[.val (.int chars), .val (.int sel), .val (.int lens), .val (.int o), .val (.int c), .val (.int f), .val (.int g), .val (.int l1), .val (.int l2), .val (.int v0), .val (.int v1), .val (.int v2), .val (.int v3), .val (.int v4), .val (.int v5), .val (.int v6), .val (.int v7), .val (.ref b187), .val (.ref b203), .unset, .unset, .unset, .unset, .unset, .unset]) rfl kq)
  show Win p e below _ T217 (mkF mt 227 #[.val (.int chars), .val (.int sel), .val (.int lens), .val (.int o), .val (.int c), .val (.int f), .val (.int g), .val (.int l1), .val (.int l2), .val (.int v0), .val (.int v1), .val (.int v2), .val (.int v3), .val (.int v4), .val (.int v5), .val (.int v6), .val (.int v7), .val (.ref b187), .val (.ref b203), .unset, .unset, .unset, .unset, .unset, .unset] [])
  obtain ⟨T220, h220, X220, e220, E220, A220, D220, -, st220⟩ := newO X217 hx hZ hown (hw _ (List.mem_of_getElem? (i := 6) rfl)) (hw _ (List.mem_of_getElem? (i := 7) rfl)) (hw _ (List.mem_of_getElem? (i := 8) rfl)) e217 (g := (mkF mt 227 #[.val (.int chars), .val (.int sel), .val (.int lens), .val (.int o), .val (.int c), .val (.int f), .val (.int g), .val (.int l1), .val (.int l2), .val (.int v0), .val (.int v1), .val (.int v2), .val (.int v3), .val (.int v4), .val (.int v5), .val (.int v6), .val (.int v7), .val (.ref b187), .val (.ref b203), .unset, .unset, .unset, .unset, .unset, .unset] [])) rfl (hb hby at_227) (by decide) (by decide)
  obtain ⟨b220, gq220⟩ : ∃ z, z = h217.size := ⟨_, rfl⟩
  rw [← gq220] at A220 D220 st220
  have ne221 : b187 ≠ b220 := own_new gq220 f218_478.lt
  have ne222 : b203 ≠ b220 := own_new gq220 V217.lt
  have g223 : n0 ≤ b220 := own_newle Z219 gq220
  have ke220 := own_kext E220
  replace X220 : Stand p l e _ s mt args below meth cd T220 _ 3 11 := X220
  have f224_492 := f218_477.keep ke220 all0
  have f224_493 := f218_478.keep ke220 nin0
  have f224_494 := V217.keep ke220 nin0
  have Z225 : n0 ≤ h220.size := Nat.le_trans Z219 ke220.1
  have fn220_steps : Fld Z h220 b220 "com/example/modest_tableau/modesttableau/document/BracketDepth" "steps" "[B" .null := D220 (Or.inr (hw _ (List.mem_of_getElem? (i := 39) rfl))) (ty := (.array .byte)) (by decide)
  have fn220_depth : Fld Z h220 b220 "com/example/modest_tableau/modesttableau/document/BracketDepth" "depth" "I" (.int (0 : Int32)) := D220 (Or.inl (hw _ (List.mem_of_getElem? (i := 84) rfl))) (ty := .int) (by decide)
  have fn220_deepest : Fld Z h220 b220 "com/example/modest_tableau/modesttableau/document/BracketDepth" "deepest" "I" (.int (0 : Int32)) := D220 (Or.inl (hw _ (List.mem_of_getElem? (i := 86) rfl))) (ty := .int) (by decide)
  refine Win.st ?_ st220
  show Win p e below _ T220 (mkF mt 230 #[.val (.int chars), .val (.int sel), .val (.int lens), .val (.int o), .val (.int c), .val (.int f), .val (.int g), .val (.int l1), .val (.int l2), .val (.int v0), .val (.int v1), .val (.int v2), .val (.int v3), .val (.int v4), .val (.int v5), .val (.int v6), .val (.int v7), .val (.ref b187), .val (.ref b203), .unset, .unset, .unset, .unset, .unset, .unset] [(.ref b220)])
  refine Win.st ?_ (fun tq kq => XS.dup X220.here hx rfl (hb hby at_230) rfl rfl kq)
  show Win p e below _ T220 (mkF mt 231 #[.val (.int chars), .val (.int sel), .val (.int lens), .val (.int o), .val (.int c), .val (.int f), .val (.int g), .val (.int l1), .val (.int l2), .val (.int v0), .val (.int v1), .val (.int v2), .val (.int v3), .val (.int v4), .val (.int v5), .val (.int v6), .val (.int v7), .val (.ref b187), .val (.ref b203), .unset, .unset, .unset, .unset, .unset, .unset] [(.ref b220), (.ref b220)])
  refine Win.st ?_ (fun tq kq => XS.iloadN X220.here hx rfl (hb hby at_231) rfl kq)
  show Win p e below _ T220 (mkF mt 232 #[.val (.int chars), .val (.int sel), .val (.int lens), .val (.int o), .val (.int c), .val (.int f), .val (.int g), .val (.int l1), .val (.int l2), .val (.int v0), .val (.int v1), .val (.int v2), .val (.int v3), .val (.int v4), .val (.int v5), .val (.int v6), .val (.int v7), .val (.ref b187), .val (.ref b203), .unset, .unset, .unset, .unset, .unset, .unset] [(.int o), (.ref b220), (.ref b220)])
  refine Win.st ?_ (fun tq kq => XS.i2c X220.here hx rfl (hb hby at_232) rfl kq)
  show Win p e below _ T220 (mkF mt 233 #[.val (.int chars), .val (.int sel), .val (.int lens), .val (.int o), .val (.int c), .val (.int f), .val (.int g), .val (.int l1), .val (.int l2), .val (.int v0), .val (.int v1), .val (.int v2), .val (.int v3), .val (.int v4), .val (.int v5), .val (.int v6), .val (.int v7), .val (.ref b187), .val (.ref b203), .unset, .unset, .unset, .unset, .unset, .unset] [(.int (o.toUInt32.toUInt16.toUInt32.toInt32)), (.ref b220), (.ref b220)])
  rw [own_char ho]
  show Win p e below _ T220 (mkF mt 233 #[.val (.int chars), .val (.int sel), .val (.int lens), .val (.int o), .val (.int c), .val (.int f), .val (.int g), .val (.int l1), .val (.int l2), .val (.int v0), .val (.int v1), .val (.int v2), .val (.int v3), .val (.int v4), .val (.int v5), .val (.int v6), .val (.int v7), .val (.ref b187), .val (.ref b203), .unset, .unset, .unset, .unset, .unset, .unset] [(.int o), (.ref b220), (.ref b220)])
  obtain ⟨v226, _, ⟨T226, L226, k226, n226⟩, -, X226, ⟨Lc226, hQ226, l226, y226, z226⟩, st226⟩ := Jvm.LawKit.callS X220 hx (y := (⟨"java/lang/String", "valueOf", "(C)Ljava/lang/String;"⟩ : MethodName)) hown (mvT hZ (hw _ (List.mem_of_getElem? (i := 9) rfl))) (mvT hZ (hw _ (List.mem_of_getElem? (i := 10) rfl))) (mvT hZ (hw _ (List.mem_of_getElem? (i := 11) rfl))) (mvT hZ (hw _ (List.mem_of_getElem? (i := 12) rfl))) (by decide) (backOf (W := 2) (rm_valueof l Z a0 hw [] o cs h220 n0 Z225 S0 hcs f224_492 (own_nlt (by rw [own_i255]; exact ho.2))) hZ (hw _ (List.mem_of_getElem? (i := 12) rfl)) (hw _ (List.mem_of_getElem? (i := 11) rfl)) (by decide) (by decide)) (g := (mkF mt 233 #[.val (.int chars), .val (.int sel), .val (.int lens), .val (.int o), .val (.int c), .val (.int f), .val (.int g), .val (.int l1), .val (.int l2), .val (.int v0), .val (.int v1), .val (.int v2), .val (.int v3), .val (.int v4), .val (.int v5), .val (.int v6), .val (.int v7), .val (.ref b187), .val (.ref b203), .unset, .unset, .unset, .unset, .unset, .unset] [(.int o), (.ref b220), (.ref b220)])) rfl (by rw [hml]; rfl) (argsL := [(.int o)]) (rest := [(.ref b220), (.ref b220)]) (lenOf pd_14 rfl) rfl (by show 2 * 0 + _ ≤ _; exact Nat.le_of_eq rfl) (hb hby at_233) (fun _ _ => ⟨rfl, e220, (by decide : 3 + 2 ≤ _), (by decide : 11 + 5 ≤ _)⟩)
  dsimp only [Pt.U, Pt.locs, Pt.cells, Pt.slots] at X226 l226 y226 z226 st226 hQ226
  subst y226 z226
  replace X226 : Stand p l e _ s mt args below meth cd T226 L226 5 16 := X226
  obtain ⟨h226, e226⟩ : ∃ z, T226.heap = z := ⟨_, rfl⟩
  rw [e226] at hQ226
  obtain ⟨sr0, rfl, Nq226, K226, gs226, zs226, st_0, ks0, gt226, zt226, E226, fv226, fc226, V226⟩ := hQ226
  have N226 : Fr n0 L226 := by rw [l226]; exact Fr.app N217 Nq226
  have f227_517 := f224_492.keep K226 all0
  have f227_518 := f224_493.keep K226 nin0
  have f227_519 := f224_494.keep K226 nin0
  have f227_520 := A220.keep K226
  have f227_521 := fn220_steps.keep K226 nin0
  have f227_522 := fn220_depth.keep K226 nin0
  have f227_523 := fn220_deepest.keep K226 nin0
  have Z228 : n0 ≤ h226.size := Nat.le_trans Z225 K226.1
  have ne229 : b187 ≠ sr0 := Nat.ne_of_lt (Nat.lt_of_lt_of_le f224_493.lt zs226)
  have ne230 : b187 ≠ st_0 := Nat.ne_of_lt (Nat.lt_of_lt_of_le f224_493.lt zt226)
  have ne231 : b203 ≠ sr0 := Nat.ne_of_lt (Nat.lt_of_lt_of_le f224_494.lt zs226)
  have ne232 : b203 ≠ st_0 := Nat.ne_of_lt (Nat.lt_of_lt_of_le f224_494.lt zt226)
  have ne233 : b220 ≠ sr0 := Nat.ne_of_lt (Nat.lt_of_lt_of_le A220.lt zs226)
  have ne234 : b220 ≠ st_0 := Nat.ne_of_lt (Nat.lt_of_lt_of_le A220.lt zt226)
  refine Win.st ?_ st226
  show Win p e below _ T226 (mkF mt 236 #[.val (.int chars), .val (.int sel), .val (.int lens), .val (.int o), .val (.int c), .val (.int f), .val (.int g), .val (.int l1), .val (.int l2), .val (.int v0), .val (.int v1), .val (.int v2), .val (.int v3), .val (.int v4), .val (.int v5), .val (.int v6), .val (.int v7), .val (.ref b187), .val (.ref b203), .unset, .unset, .unset, .unset, .unset, .unset] [(.ref sr0), (.ref b220), (.ref b220)])
  refine Win.st ?_ (fun tq kq => XS.iload X226.here hx rfl (hb hby at_236) rfl kq)
  show Win p e below _ T226 (mkF mt 238 #[.val (.int chars), .val (.int sel), .val (.int lens), .val (.int o), .val (.int c), .val (.int f), .val (.int g), .val (.int l1), .val (.int l2), .val (.int v0), .val (.int v1), .val (.int v2), .val (.int v3), .val (.int v4), .val (.int v5), .val (.int v6), .val (.int v7), .val (.ref b187), .val (.ref b203), .unset, .unset, .unset, .unset, .unset, .unset] [(.int c), (.ref sr0), (.ref b220), (.ref b220)])
  refine Win.st ?_ (fun tq kq => XS.i2c X226.here hx rfl (hb hby at_238) rfl kq)
  show Win p e below _ T226 (mkF mt 239 #[.val (.int chars), .val (.int sel), .val (.int lens), .val (.int o), .val (.int c), .val (.int f), .val (.int g), .val (.int l1), .val (.int l2), .val (.int v0), .val (.int v1), .val (.int v2), .val (.int v3), .val (.int v4), .val (.int v5), .val (.int v6), .val (.int v7), .val (.ref b187), .val (.ref b203), .unset, .unset, .unset, .unset, .unset, .unset] [(.int (c.toUInt32.toUInt16.toUInt32.toInt32)), (.ref sr0), (.ref b220), (.ref b220)])
  rw [own_char hc]
  show Win p e below _ T226 (mkF mt 239 #[.val (.int chars), .val (.int sel), .val (.int lens), .val (.int o), .val (.int c), .val (.int f), .val (.int g), .val (.int l1), .val (.int l2), .val (.int v0), .val (.int v1), .val (.int v2), .val (.int v3), .val (.int v4), .val (.int v5), .val (.int v6), .val (.int v7), .val (.ref b187), .val (.ref b203), .unset, .unset, .unset, .unset, .unset, .unset] [(.int c), (.ref sr0), (.ref b220), (.ref b220)])
  obtain ⟨v235, _, ⟨T235, L235, k235, n235⟩, -, X235, ⟨Lc235, hQ235, l235, y235, z235⟩, st235⟩ := Jvm.LawKit.callS X226 hx (y := (⟨"java/lang/String", "valueOf", "(C)Ljava/lang/String;"⟩ : MethodName)) hown (mvT hZ (hw _ (List.mem_of_getElem? (i := 9) rfl))) (mvT hZ (hw _ (List.mem_of_getElem? (i := 10) rfl))) (mvT hZ (hw _ (List.mem_of_getElem? (i := 11) rfl))) (mvT hZ (hw _ (List.mem_of_getElem? (i := 12) rfl))) (by decide) (backOf (W := 3) (rm_valueof l Z a0 hw [] c cs h226 n0 Z228 S0 hcs f227_517 (own_nlt (by rw [own_i255]; exact hc.2))) hZ (hw _ (List.mem_of_getElem? (i := 12) rfl)) (hw _ (List.mem_of_getElem? (i := 11) rfl)) (by decide) (by decide)) (g := (mkF mt 239 #[.val (.int chars), .val (.int sel), .val (.int lens), .val (.int o), .val (.int c), .val (.int f), .val (.int g), .val (.int l1), .val (.int l2), .val (.int v0), .val (.int v1), .val (.int v2), .val (.int v3), .val (.int v4), .val (.int v5), .val (.int v6), .val (.int v7), .val (.ref b187), .val (.ref b203), .unset, .unset, .unset, .unset, .unset, .unset] [(.int c), (.ref sr0), (.ref b220), (.ref b220)])) rfl (by rw [hml]; rfl) (argsL := [(.int c)]) (rest := [(.ref sr0), (.ref b220), (.ref b220)]) (lenOf pd_14 rfl) rfl (by show 2 * 0 + _ ≤ _; exact Nat.le_of_eq rfl) (hb hby at_239) (fun _ _ => ⟨rfl, e226, (by decide : 5 + 2 ≤ _), (by decide : 16 + 5 ≤ _)⟩)
  dsimp only [Pt.U, Pt.locs, Pt.cells, Pt.slots] at X235 l235 y235 z235 st235 hQ235
  subst y235 z235
  replace X235 : Stand p l e _ s mt args below meth cd T235 L235 7 21 := X235
  obtain ⟨h235, e235⟩ : ∃ z, T235.heap = z := ⟨_, rfl⟩
  rw [e235] at hQ235
  obtain ⟨sr1, rfl, Nq235, K235, gs235, zs235, st_1, ks1, gt235, zt235, E235, fv235, fc235, V235⟩ := hQ235
  have N235 : Fr n0 L235 := by rw [l235]; exact Fr.app N226 Nq235
  have f236_547 := f227_517.keep K235 all0
  have f236_548 := f227_518.keep K235 nin0
  have f236_549 := f227_519.keep K235 nin0
  have f236_550 := f227_520.keep K235
  have f236_551 := f227_521.keep K235 nin0
  have f236_552 := f227_522.keep K235 nin0
  have f236_553 := f227_523.keep K235 nin0
  have f236_554 := E226.keep K235
  have f236_555 := fv226.keep K235 nin0
  have f236_556 := fc226.keep K235 nin0
  have f236_557 := V226.keep K235 nin0
  have Z237 : n0 ≤ h235.size := Nat.le_trans Z228 K235.1
  have ne238 : b187 ≠ sr1 := Nat.ne_of_lt (Nat.lt_of_lt_of_le f227_518.lt zs235)
  have ne239 : b187 ≠ st_1 := Nat.ne_of_lt (Nat.lt_of_lt_of_le f227_518.lt zt235)
  have ne240 : b203 ≠ sr1 := Nat.ne_of_lt (Nat.lt_of_lt_of_le f227_519.lt zs235)
  have ne241 : b203 ≠ st_1 := Nat.ne_of_lt (Nat.lt_of_lt_of_le f227_519.lt zt235)
  have ne242 : b220 ≠ sr1 := Nat.ne_of_lt (Nat.lt_of_lt_of_le f227_520.lt zs235)
  have ne243 : b220 ≠ st_1 := Nat.ne_of_lt (Nat.lt_of_lt_of_le f227_520.lt zt235)
  have ne244 : sr0 ≠ sr1 := Nat.ne_of_lt (Nat.lt_of_lt_of_le E226.lt zs235)
  have ne245 : sr0 ≠ st_1 := Nat.ne_of_lt (Nat.lt_of_lt_of_le E226.lt zt235)
  have ne246 : st_0 ≠ sr1 := Nat.ne_of_lt (Nat.lt_of_lt_of_le V226.lt zs235)
  have ne247 : st_0 ≠ st_1 := Nat.ne_of_lt (Nat.lt_of_lt_of_le V226.lt zt235)
  refine Win.st ?_ st235
  show Win p e below _ T235 (mkF mt 242 #[.val (.int chars), .val (.int sel), .val (.int lens), .val (.int o), .val (.int c), .val (.int f), .val (.int g), .val (.int l1), .val (.int l2), .val (.int v0), .val (.int v1), .val (.int v2), .val (.int v3), .val (.int v4), .val (.int v5), .val (.int v6), .val (.int v7), .val (.ref b187), .val (.ref b203), .unset, .unset, .unset, .unset, .unset, .unset] [(.ref sr1), (.ref sr0), (.ref b220), (.ref b220)])
  obtain ⟨v248, _, ⟨T248, L248, k248, n248⟩, -, X248, ⟨Lc248, hQ248, l248, y248, z248⟩, st248⟩ := X235.specialBack hx (y := (⟨"com/example/modest_tableau/modesttableau/document/BracketDepth", "<init>", "(Ljava/lang/String;Ljava/lang/String;)V"⟩ : MethodName)) rfl hown (mvT hZ (hw _ (List.mem_of_getElem? (i := 34) rfl))) (mvT hZ (hw _ (List.mem_of_getElem? (i := 35) rfl))) (mvT hZ (hw _ (List.mem_of_getElem? (i := 36) rfl))) (by decide) (backOf (W := 1) (rm_bdinit l Z a0 hw [] b220 sr0 sr1 cs u st_0 ks0 o st_1 ks1 c h235 n0 Z237 f236_550 f236_551 f236_552 f236_553 g223 S0 hcs f236_547 S1 hu ho f236_554 f236_555 f236_556 f236_557 (Ne.symm ne233) (Ne.symm ne234) hc E235 fv235 fc235 V235 (Ne.symm ne242) (Ne.symm ne243)) hZ (hw _ (List.mem_of_getElem? (i := 36) rfl)) (hw _ (List.mem_of_getElem? (i := 8) rfl)) (by decide) (by decide)) (g := (mkF mt 242 #[.val (.int chars), .val (.int sel), .val (.int lens), .val (.int o), .val (.int c), .val (.int f), .val (.int g), .val (.int l1), .val (.int l2), .val (.int v0), .val (.int v1), .val (.int v2), .val (.int v3), .val (.int v4), .val (.int v5), .val (.int v6), .val (.int v7), .val (.ref b187), .val (.ref b203), .unset, .unset, .unset, .unset, .unset, .unset] [(.ref sr1), (.ref sr0), (.ref b220), (.ref b220)])) rfl (by rw [hml]; rfl) (Steps.refl _) (a := b220) (argsL := [(.ref sr0), (.ref sr1)]) (rest := [(.ref b220)]) (lenOf pd_15 rfl) rfl (by show 2 * 0 + _ ≤ _; exact Nat.le_of_eq rfl) (hb hby at_242) (fun _ _ => ⟨rfl, e235, (by decide : 7 + 1 ≤ _), (by decide : 21 + 256 ≤ _)⟩)
  dsimp only [Pt.U, Pt.locs, Pt.cells, Pt.slots] at X248 l248 y248 z248 st248 hQ248
  subst y248 z248
  replace X248 : Stand p l e _ s mt args below meth cd T248 L248 8 277 := X248
  obtain ⟨h248, e248⟩ : ∃ z, T248.heap = z := ⟨_, rfl⟩
  rw [e248] at hQ248
  obtain ⟨rfl, Nq248, K248, fd248, fm248, tt, ktt, gt248, nt248, zt248, fs248, V248⟩ := hQ248
  have N248 : Fr n0 L248 := by rw [l248]; exact Fr.app N235 Nq248
  have f249_579 := f236_547.keep K248 (allS g223 all0)
  have f249_580 := f236_548.keep K248 (ninS ne221 nin0)
  have f249_581 := f236_549.keep K248 (ninS ne222 nin0)
  have f249_582 := f236_550.keep K248
  have f249_583 := f236_554.keep K248
  have f249_584 := f236_555.keep K248 (ninS (Ne.symm ne233) nin0)
  have f249_585 := f236_556.keep K248 (ninS (Ne.symm ne233) nin0)
  have f249_586 := f236_557.keep K248 (ninS (Ne.symm ne234) nin0)
  have f249_587 := E235.keep K248
  have f249_588 := fv235.keep K248 (ninS (Ne.symm ne242) nin0)
  have f249_589 := fc235.keep K248 (ninS (Ne.symm ne242) nin0)
  have f249_590 := V235.keep K248 (ninS (Ne.symm ne243) nin0)
  have Z250 : n0 ≤ h248.size := Nat.le_trans Z237 K248.1
  have ne251 : b187 ≠ tt := Nat.ne_of_lt (Nat.lt_of_lt_of_le f236_548.lt zt248)
  have ne252 : b203 ≠ tt := Nat.ne_of_lt (Nat.lt_of_lt_of_le f236_549.lt zt248)
  have ne253 : sr0 ≠ tt := Nat.ne_of_lt (Nat.lt_of_lt_of_le f236_554.lt zt248)
  have ne254 : st_0 ≠ tt := Nat.ne_of_lt (Nat.lt_of_lt_of_le f236_557.lt zt248)
  have ne255 : sr1 ≠ tt := Nat.ne_of_lt (Nat.lt_of_lt_of_le E235.lt zt248)
  have ne256 : st_1 ≠ tt := Nat.ne_of_lt (Nat.lt_of_lt_of_le V235.lt zt248)
  refine Win.tr ?_ st248
  show Win p e below _ T248 (mkF mt 245 #[.val (.int chars), .val (.int sel), .val (.int lens), .val (.int o), .val (.int c), .val (.int f), .val (.int g), .val (.int l1), .val (.int l2), .val (.int v0), .val (.int v1), .val (.int v2), .val (.int v3), .val (.int v4), .val (.int v5), .val (.int v6), .val (.int v7), .val (.ref b187), .val (.ref b203), .unset, .unset, .unset, .unset, .unset, .unset] [(.ref b220)])
  refine Win.st ?_ (fun tq kq => XS.astore X248.here hx rfl (hb hby at_245) rfl rfl (l' := #[.val (.int chars), .val (.int sel), .val (.int lens), .val (.int o), .val (.int c), .val (.int f), .val (.int g), .val (.int l1), .val (.int l2), .val (.int v0), .val (.int v1), .val (.int v2), .val (.int v3), .val (.int v4), .val (.int v5), .val (.int v6), .val (.int v7), .val (.ref b187), .val (.ref b203), .val (.ref b220), .unset, .unset, .unset, .unset, .unset]) rfl kq)
  show Win p e below _ T248 (mkF mt 247 #[.val (.int chars), .val (.int sel), .val (.int lens), .val (.int o), .val (.int c), .val (.int f), .val (.int g), .val (.int l1), .val (.int l2), .val (.int v0), .val (.int v1), .val (.int v2), .val (.int v3), .val (.int v4), .val (.int v5), .val (.int v6), .val (.int v7), .val (.ref b187), .val (.ref b203), .val (.ref b220), .unset, .unset, .unset, .unset, .unset] [])
  refine Win.st ?_ (fun tq kq => XS.aload X248.here hx rfl (hb hby at_247) rfl rfl kq)
  show Win p e below _ T248 (mkF mt 249 #[.val (.int chars), .val (.int sel), .val (.int lens), .val (.int o), .val (.int c), .val (.int f), .val (.int g), .val (.int l1), .val (.int l2), .val (.int v0), .val (.int v1), .val (.int v2), .val (.int v3), .val (.int v4), .val (.int v5), .val (.int v6), .val (.int v7), .val (.ref b187), .val (.ref b203), .val (.ref b220), .unset, .unset, .unset, .unset, .unset] [(.ref b220)])
  refine Win.st ?_ (fun tq kq => XS.aload X248.here hx rfl (hb hby at_249) rfl rfl kq)
  show Win p e below _ T248 (mkF mt 251 #[.val (.int chars), .val (.int sel), .val (.int lens), .val (.int o), .val (.int c), .val (.int f), .val (.int g), .val (.int l1), .val (.int l2), .val (.int v0), .val (.int v1), .val (.int v2), .val (.int v3), .val (.int v4), .val (.int v5), .val (.int v6), .val (.int v7), .val (.ref b187), .val (.ref b203), .val (.ref b220), .unset, .unset, .unset, .unset, .unset] [(.ref b187), (.ref b220)])
  refine Win.st ?_ (fun tq kq => XS.iload X248.here hx rfl (hb hby at_251) rfl kq)
  show Win p e below _ T248 (mkF mt 253 #[.val (.int chars), .val (.int sel), .val (.int lens), .val (.int o), .val (.int c), .val (.int f), .val (.int g), .val (.int l1), .val (.int l2), .val (.int v0), .val (.int v1), .val (.int v2), .val (.int v3), .val (.int v4), .val (.int v5), .val (.int v6), .val (.int v7), .val (.ref b187), .val (.ref b203), .val (.ref b220), .unset, .unset, .unset, .unset, .unset] [(.int l1), (.ref b187), (.ref b220)])
  obtain ⟨cq257, kq257, q257a, q257b, q257c⟩ := isOf hZ e248 f249_582
  obtain ⟨v257, _, ⟨T257, L257, k257, n257⟩, -, X257, ⟨Lc257, hQ257, l257, y257, z257⟩, st257⟩ := X248.virtualBack hx (y := (⟨"com/example/modest_tableau/modesttableau/document/BracketDepth", "add", "([BI)V"⟩ : MethodName)) (z := (⟨"com/example/modest_tableau/modesttableau/document/BracketDepth", "add", "([BI)V"⟩ : MethodName)) hown (mvT hZ (hw _ (List.mem_of_getElem? (i := 74) rfl))) (mvT hZ (hw _ (List.mem_of_getElem? (i := 75) rfl))) (notFace_of_selects (args := #[]) (mvT hZ (hw _ (List.mem_of_getElem? (i := 77) rfl)))) (mvT hZ (hw _ (List.mem_of_getElem? (i := 77) rfl))) (mvT hZ (hw _ (List.mem_of_getElem? (i := 76) rfl))) (by decide) (backOf (W := 0) (rm_bdadd l Z a0 hw [] b220 b187 l1 (0 : Int32) (0 : Int32) tt ktt k187 o c v0 v1 v2 v3 h248 n0 Z250 f249_582 fd248 fm248 fs248 V248 f249_580 g223 (Ne.symm nt248) ne221 ho hc hv0 hv1 hv2 hv3 hl1) hZ (hw _ (List.mem_of_getElem? (i := 78) rfl)) (hw _ (List.mem_of_getElem? (i := 8) rfl)) (by decide) (by decide)) q257a q257c (g := (mkF mt 253 #[.val (.int chars), .val (.int sel), .val (.int lens), .val (.int o), .val (.int c), .val (.int f), .val (.int g), .val (.int l1), .val (.int l2), .val (.int v0), .val (.int v1), .val (.int v2), .val (.int v3), .val (.int v4), .val (.int v5), .val (.int v6), .val (.int v7), .val (.ref b187), .val (.ref b203), .val (.ref b220), .unset, .unset, .unset, .unset, .unset] [(.int l1), (.ref b187), (.ref b220)])) rfl (by rw [hml]; rfl) (Steps.refl _) (argsL := [(.ref b187), (.int l1)]) (rest := []) (lenOf pd_16 rfl) rfl (by show 2 * 0 + _ ≤ _; exact Nat.le_of_eq rfl) (hb hby at_253) (fun _ _ => ⟨rfl, e248, (by decide : 8 + 0 ≤ _), (by decide : 277 + 0 ≤ _)⟩)
  dsimp only [Pt.U, Pt.locs, Pt.cells, Pt.slots] at X257 l257 y257 z257 st257 hQ257
  subst y257 z257
  replace X257 : Stand p l e _ s mt args below meth cd T257 L257 8 277 := X257
  obtain ⟨h257, e257⟩ : ∃ z, T257.heap = z := ⟨_, rfl⟩
  rw [e257] at hQ257
  obtain ⟨rfl, Nq257, K257, fd257, fm257, fs257⟩ := hQ257
  have N257 : Fr n0 L257 := by rw [l257]; exact Fr.app N248 Nq257
  have f258_617 := f249_579.keep K257 (allS g223 all0)
  have f258_618 := f249_580.keep K257 (ninS ne221 nin0)
  have f258_619 := f249_581.keep K257 (ninS ne222 nin0)
  have f258_620 := f249_582.keep K257
  have f258_621 := f249_583.keep K257
  have f258_622 := f249_584.keep K257 (ninS (Ne.symm ne233) nin0)
  have f258_623 := f249_585.keep K257 (ninS (Ne.symm ne233) nin0)
  have f258_624 := f249_586.keep K257 (ninS (Ne.symm ne234) nin0)
  have f258_625 := f249_587.keep K257
  have f258_626 := f249_588.keep K257 (ninS (Ne.symm ne242) nin0)
  have f258_627 := f249_589.keep K257 (ninS (Ne.symm ne242) nin0)
  have f258_628 := f249_590.keep K257 (ninS (Ne.symm ne243) nin0)
  have f258_629 := V248.keep K257 (ninS (Ne.symm nt248) nin0)
  have Z259 : n0 ≤ h257.size := Nat.le_trans Z250 K257.1
  obtain ⟨dd0, hdd0⟩ : ∃ z, z = (own_fd l1 (3 : Int32) (own_fd l1 (2 : Int32) (own_fd l1 (1 : Int32) (own_fd l1 (0 : Int32) (0 : Int32) (own_s o c v0)) (own_s o c v1)) (own_s o c v2)) (own_s o c v3)) := ⟨_, rfl⟩
  obtain ⟨mm0, hmm0⟩ : ∃ z, z = (own_fm l1 (3 : Int32) (own_fd l1 (2 : Int32) (own_fd l1 (1 : Int32) (own_fd l1 (0 : Int32) (0 : Int32) (own_s o c v0)) (own_s o c v1)) (own_s o c v2)) (own_fm l1 (2 : Int32) (own_fd l1 (1 : Int32) (own_fd l1 (0 : Int32) (0 : Int32) (own_s o c v0)) (own_s o c v1)) (own_fm l1 (1 : Int32) (own_fd l1 (0 : Int32) (0 : Int32) (own_s o c v0)) (own_fm l1 (0 : Int32) (0 : Int32) (0 : Int32) (own_s o c v0)) (own_s o c v1)) (own_s o c v2)) (own_s o c v3)) := ⟨_, rfl⟩
  rw [← hdd0] at fd257
  rw [← hmm0] at fm257
  refine Win.tr ?_ st257
  show Win p e below _ T257 (mkF mt 256 #[.val (.int chars), .val (.int sel), .val (.int lens), .val (.int o), .val (.int c), .val (.int f), .val (.int g), .val (.int l1), .val (.int l2), .val (.int v0), .val (.int v1), .val (.int v2), .val (.int v3), .val (.int v4), .val (.int v5), .val (.int v6), .val (.int v7), .val (.ref b187), .val (.ref b203), .val (.ref b220), .unset, .unset, .unset, .unset, .unset] [])
  refine Win.st ?_ (fun tq kq => XS.aload X257.here hx rfl (hb hby at_256) rfl rfl kq)
  show Win p e below _ T257 (mkF mt 258 #[.val (.int chars), .val (.int sel), .val (.int lens), .val (.int o), .val (.int c), .val (.int f), .val (.int g), .val (.int l1), .val (.int l2), .val (.int v0), .val (.int v1), .val (.int v2), .val (.int v3), .val (.int v4), .val (.int v5), .val (.int v6), .val (.int v7), .val (.ref b187), .val (.ref b203), .val (.ref b220), .unset, .unset, .unset, .unset, .unset] [(.ref b220)])
  obtain ⟨cq260, kq260, q260a, q260b, q260c⟩ := isOf hZ e257 f258_620
  obtain ⟨v260, _, ⟨T260, L260, k260, n260⟩, -, X260, ⟨Lc260, hQ260, l260, y260, z260⟩, st260⟩ := X257.virtualBack hx (y := (⟨"com/example/modest_tableau/modesttableau/document/BracketDepth", "deepest", "()I"⟩ : MethodName)) (z := (⟨"com/example/modest_tableau/modesttableau/document/BracketDepth", "deepest", "()I"⟩ : MethodName)) hown (mvT hZ (hw _ (List.mem_of_getElem? (i := 91) rfl))) (mvT hZ (hw _ (List.mem_of_getElem? (i := 92) rfl))) (notFace_of_selects (args := #[]) (mvT hZ (hw _ (List.mem_of_getElem? (i := 94) rfl)))) (mvT hZ (hw _ (List.mem_of_getElem? (i := 94) rfl))) (mvT hZ (hw _ (List.mem_of_getElem? (i := 93) rfl))) (by decide) (backOf (W := 0) (rm_bdd l Z a0 hw [] b220 mm0 h257 n0 Z259 fm257) hZ (hw _ (List.mem_of_getElem? (i := 95) rfl)) (hw _ (List.mem_of_getElem? (i := 8) rfl)) (by decide) (by decide)) q260a q260c (g := (mkF mt 258 #[.val (.int chars), .val (.int sel), .val (.int lens), .val (.int o), .val (.int c), .val (.int f), .val (.int g), .val (.int l1), .val (.int l2), .val (.int v0), .val (.int v1), .val (.int v2), .val (.int v3), .val (.int v4), .val (.int v5), .val (.int v6), .val (.int v7), .val (.ref b187), .val (.ref b203), .val (.ref b220), .unset, .unset, .unset, .unset, .unset] [(.ref b220)])) rfl (by rw [hml]; rfl) (Steps.refl _) (argsL := []) (rest := []) (lenOf pd_8 rfl) rfl (by show 2 * 0 + _ ≤ _; exact Nat.le_of_eq rfl) (hb hby at_258) (fun _ _ => ⟨rfl, e257, (by decide : 8 + 0 ≤ _), (by decide : 277 + 0 ≤ _)⟩)
  dsimp only [Pt.U, Pt.locs, Pt.cells, Pt.slots] at X260 l260 y260 z260 st260 hQ260
  subst y260 z260
  replace X260 : Stand p l e _ s mt args below meth cd T260 L260 8 277 := X260
  obtain ⟨h260, e260⟩ : ∃ z, T260.heap = z := ⟨_, rfl⟩
  rw [e260] at hQ260
  obtain ⟨rfl, Nq260, eh260⟩ := hQ260
  have N260 : Fr n0 L260 := by rw [l260]; exact Fr.app N257 Nq260
  rw [eh260] at e260
  refine Win.tr ?_ st260
  show Win p e below _ T260 (mkF mt 261 #[.val (.int chars), .val (.int sel), .val (.int lens), .val (.int o), .val (.int c), .val (.int f), .val (.int g), .val (.int l1), .val (.int l2), .val (.int v0), .val (.int v1), .val (.int v2), .val (.int v3), .val (.int v4), .val (.int v5), .val (.int v6), .val (.int v7), .val (.ref b187), .val (.ref b203), .val (.ref b220), .unset, .unset, .unset, .unset, .unset] [(.int mm0)])
  refine Win.st ?_ (fun tq kq => XS.istore X260.here hx rfl (hb hby at_261) rfl (l' := #[.val (.int chars), .val (.int sel), .val (.int lens), .val (.int o), .val (.int c), .val (.int f), .val (.int g), .val (.int l1), .val (.int l2), .val (.int v0), .val (.int v1), .val (.int v2), .val (.int v3), .val (.int v4), .val (.int v5), .val (.int v6), .val (.int v7), .val (.ref b187), .val (.ref b203), .val (.ref b220), .val (.int mm0), .unset, .unset, .unset, .unset]) rfl kq)
  show Win p e below _ T260 (mkF mt 263 #[.val (.int chars), .val (.int sel), .val (.int lens), .val (.int o), .val (.int c), .val (.int f), .val (.int g), .val (.int l1), .val (.int l2), .val (.int v0), .val (.int v1), .val (.int v2), .val (.int v3), .val (.int v4), .val (.int v5), .val (.int v6), .val (.int v7), .val (.ref b187), .val (.ref b203), .val (.ref b220), .val (.int mm0), .unset, .unset, .unset, .unset] [])
  refine Win.st ?_ (fun tq kq => XS.aload X260.here hx rfl (hb hby at_263) rfl rfl kq)
  show Win p e below _ T260 (mkF mt 265 #[.val (.int chars), .val (.int sel), .val (.int lens), .val (.int o), .val (.int c), .val (.int f), .val (.int g), .val (.int l1), .val (.int l2), .val (.int v0), .val (.int v1), .val (.int v2), .val (.int v3), .val (.int v4), .val (.int v5), .val (.int v6), .val (.int v7), .val (.ref b187), .val (.ref b203), .val (.ref b220), .val (.int mm0), .unset, .unset, .unset, .unset] [(.ref b220)])
  refine Win.st ?_ (fun tq kq => XS.aload X260.here hx rfl (hb hby at_265) rfl rfl kq)
  show Win p e below _ T260 (mkF mt 267 #[.val (.int chars), .val (.int sel), .val (.int lens), .val (.int o), .val (.int c), .val (.int f), .val (.int g), .val (.int l1), .val (.int l2), .val (.int v0), .val (.int v1), .val (.int v2), .val (.int v3), .val (.int v4), .val (.int v5), .val (.int v6), .val (.int v7), .val (.ref b187), .val (.ref b203), .val (.ref b220), .val (.int mm0), .unset, .unset, .unset, .unset] [(.ref b203), (.ref b220)])
  refine Win.st ?_ (fun tq kq => XS.iload X260.here hx rfl (hb hby at_267) rfl kq)
  show Win p e below _ T260 (mkF mt 269 #[.val (.int chars), .val (.int sel), .val (.int lens), .val (.int o), .val (.int c), .val (.int f), .val (.int g), .val (.int l1), .val (.int l2), .val (.int v0), .val (.int v1), .val (.int v2), .val (.int v3), .val (.int v4), .val (.int v5), .val (.int v6), .val (.int v7), .val (.ref b187), .val (.ref b203), .val (.ref b220), .val (.int mm0), .unset, .unset, .unset, .unset] [(.int l2), (.ref b203), (.ref b220)])
  obtain ⟨cq261, kq261, q261a, q261b, q261c⟩ := isOf hZ e260 f258_620
  obtain ⟨v261, _, ⟨T261, L261, k261, n261⟩, -, X261, ⟨Lc261, hQ261, l261, y261, z261⟩, st261⟩ := X260.virtualBack hx (y := (⟨"com/example/modest_tableau/modesttableau/document/BracketDepth", "add", "([BI)V"⟩ : MethodName)) (z := (⟨"com/example/modest_tableau/modesttableau/document/BracketDepth", "add", "([BI)V"⟩ : MethodName)) hown (mvT hZ (hw _ (List.mem_of_getElem? (i := 74) rfl))) (mvT hZ (hw _ (List.mem_of_getElem? (i := 75) rfl))) (notFace_of_selects (args := #[]) (mvT hZ (hw _ (List.mem_of_getElem? (i := 77) rfl)))) (mvT hZ (hw _ (List.mem_of_getElem? (i := 77) rfl))) (mvT hZ (hw _ (List.mem_of_getElem? (i := 76) rfl))) (by decide) (backOf (W := 0) (rm_bdadd l Z a0 hw [] b220 b203 l2 dd0 mm0 tt ktt k203 o c v4 v5 v6 v7 h257 n0 Z259 f258_620 fd257 fm257 fs257 f258_629 f258_619 g223 (Ne.symm nt248) ne222 ho hc hv4 hv5 hv6 hv7 hl2) hZ (hw _ (List.mem_of_getElem? (i := 78) rfl)) (hw _ (List.mem_of_getElem? (i := 8) rfl)) (by decide) (by decide)) q261a q261c (g := (mkF mt 269 #[.val (.int chars), .val (.int sel), .val (.int lens), .val (.int o), .val (.int c), .val (.int f), .val (.int g), .val (.int l1), .val (.int l2), .val (.int v0), .val (.int v1), .val (.int v2), .val (.int v3), .val (.int v4), .val (.int v5), .val (.int v6), .val (.int v7), .val (.ref b187), .val (.ref b203), .val (.ref b220), .val (.int mm0), .unset, .unset, .unset, .unset] [(.int l2), (.ref b203), (.ref b220)])) rfl (by rw [hml]; rfl) (Steps.refl _) (argsL := [(.ref b203), (.int l2)]) (rest := []) (lenOf pd_16 rfl) rfl (by show 2 * 0 + _ ≤ _; exact Nat.le_of_eq rfl) (hb hby at_269) (fun _ _ => ⟨rfl, e260, (by decide : 8 + 0 ≤ _), (by decide : 277 + 0 ≤ _)⟩)
  dsimp only [Pt.U, Pt.locs, Pt.cells, Pt.slots] at X261 l261 y261 z261 st261 hQ261
  subst y261 z261
  replace X261 : Stand p l e _ s mt args below meth cd T261 L261 8 277 := X261
  obtain ⟨h261, e261⟩ : ∃ z, T261.heap = z := ⟨_, rfl⟩
  rw [e261] at hQ261
  obtain ⟨rfl, Nq261, K261, fd261, fm261, fs261⟩ := hQ261
  have N261 : Fr n0 L261 := by rw [l261]; exact Fr.app N260 Nq261
  have f262_668 := f258_617.keep K261 (allS g223 all0)
  have f262_669 := f258_618.keep K261 (ninS ne221 nin0)
  have f262_670 := f258_619.keep K261 (ninS ne222 nin0)
  have f262_671 := f258_620.keep K261
  have f262_672 := f258_621.keep K261
  have f262_673 := f258_622.keep K261 (ninS (Ne.symm ne233) nin0)
  have f262_674 := f258_623.keep K261 (ninS (Ne.symm ne233) nin0)
  have f262_675 := f258_624.keep K261 (ninS (Ne.symm ne234) nin0)
  have f262_676 := f258_625.keep K261
  have f262_677 := f258_626.keep K261 (ninS (Ne.symm ne242) nin0)
  have f262_678 := f258_627.keep K261 (ninS (Ne.symm ne242) nin0)
  have f262_679 := f258_628.keep K261 (ninS (Ne.symm ne243) nin0)
  have f262_680 := f258_629.keep K261 (ninS (Ne.symm nt248) nin0)
  have Z263 : n0 ≤ h261.size := Nat.le_trans Z259 K261.1
  obtain ⟨dd1, hdd1⟩ : ∃ z, z = (own_fd l2 (3 : Int32) (own_fd l2 (2 : Int32) (own_fd l2 (1 : Int32) (own_fd l2 (0 : Int32) dd0 (own_s o c v4)) (own_s o c v5)) (own_s o c v6)) (own_s o c v7)) := ⟨_, rfl⟩
  obtain ⟨mm1, hmm1⟩ : ∃ z, z = (own_fm l2 (3 : Int32) (own_fd l2 (2 : Int32) (own_fd l2 (1 : Int32) (own_fd l2 (0 : Int32) dd0 (own_s o c v4)) (own_s o c v5)) (own_s o c v6)) (own_fm l2 (2 : Int32) (own_fd l2 (1 : Int32) (own_fd l2 (0 : Int32) dd0 (own_s o c v4)) (own_s o c v5)) (own_fm l2 (1 : Int32) (own_fd l2 (0 : Int32) dd0 (own_s o c v4)) (own_fm l2 (0 : Int32) dd0 mm0 (own_s o c v4)) (own_s o c v5)) (own_s o c v6)) (own_s o c v7)) := ⟨_, rfl⟩
  rw [← hdd1] at fd261
  rw [← hmm1] at fm261
  refine Win.tr ?_ st261
  show Win p e below _ T261 (mkF mt 272 #[.val (.int chars), .val (.int sel), .val (.int lens), .val (.int o), .val (.int c), .val (.int f), .val (.int g), .val (.int l1), .val (.int l2), .val (.int v0), .val (.int v1), .val (.int v2), .val (.int v3), .val (.int v4), .val (.int v5), .val (.int v6), .val (.int v7), .val (.ref b187), .val (.ref b203), .val (.ref b220), .val (.int mm0), .unset, .unset, .unset, .unset] [])
  refine Win.st ?_ (fun tq kq => XS.aload X261.here hx rfl (hb hby at_272) rfl rfl kq)
  show Win p e below _ T261 (mkF mt 274 #[.val (.int chars), .val (.int sel), .val (.int lens), .val (.int o), .val (.int c), .val (.int f), .val (.int g), .val (.int l1), .val (.int l2), .val (.int v0), .val (.int v1), .val (.int v2), .val (.int v3), .val (.int v4), .val (.int v5), .val (.int v6), .val (.int v7), .val (.ref b187), .val (.ref b203), .val (.ref b220), .val (.int mm0), .unset, .unset, .unset, .unset] [(.ref b220)])
  obtain ⟨cq264, kq264, q264a, q264b, q264c⟩ := isOf hZ e261 f262_671
  obtain ⟨v264, _, ⟨T264, L264, k264, n264⟩, -, X264, ⟨Lc264, hQ264, l264, y264, z264⟩, st264⟩ := X261.virtualBack hx (y := (⟨"com/example/modest_tableau/modesttableau/document/BracketDepth", "deepest", "()I"⟩ : MethodName)) (z := (⟨"com/example/modest_tableau/modesttableau/document/BracketDepth", "deepest", "()I"⟩ : MethodName)) hown (mvT hZ (hw _ (List.mem_of_getElem? (i := 91) rfl))) (mvT hZ (hw _ (List.mem_of_getElem? (i := 92) rfl))) (notFace_of_selects (args := #[]) (mvT hZ (hw _ (List.mem_of_getElem? (i := 94) rfl)))) (mvT hZ (hw _ (List.mem_of_getElem? (i := 94) rfl))) (mvT hZ (hw _ (List.mem_of_getElem? (i := 93) rfl))) (by decide) (backOf (W := 0) (rm_bdd l Z a0 hw [] b220 mm1 h261 n0 Z263 fm261) hZ (hw _ (List.mem_of_getElem? (i := 95) rfl)) (hw _ (List.mem_of_getElem? (i := 8) rfl)) (by decide) (by decide)) q264a q264c (g := (mkF mt 274 #[.val (.int chars), .val (.int sel), .val (.int lens), .val (.int o), .val (.int c), .val (.int f), .val (.int g), .val (.int l1), .val (.int l2), .val (.int v0), .val (.int v1), .val (.int v2), .val (.int v3), .val (.int v4), .val (.int v5), .val (.int v6), .val (.int v7), .val (.ref b187), .val (.ref b203), .val (.ref b220), .val (.int mm0), .unset, .unset, .unset, .unset] [(.ref b220)])) rfl (by rw [hml]; rfl) (Steps.refl _) (argsL := []) (rest := []) (lenOf pd_8 rfl) rfl (by show 2 * 0 + _ ≤ _; exact Nat.le_of_eq rfl) (hb hby at_274) (fun _ _ => ⟨rfl, e261, (by decide : 8 + 0 ≤ _), (by decide : 277 + 0 ≤ _)⟩)
  dsimp only [Pt.U, Pt.locs, Pt.cells, Pt.slots] at X264 l264 y264 z264 st264 hQ264
  subst y264 z264
  replace X264 : Stand p l e _ s mt args below meth cd T264 L264 8 277 := X264
  obtain ⟨h264, e264⟩ : ∃ z, T264.heap = z := ⟨_, rfl⟩
  rw [e264] at hQ264
  obtain ⟨rfl, Nq264, eh264⟩ := hQ264
  have N264 : Fr n0 L264 := by rw [l264]; exact Fr.app N261 Nq264
  rw [eh264] at e264
  refine Win.tr ?_ st264
  show Win p e below _ T264 (mkF mt 277 #[.val (.int chars), .val (.int sel), .val (.int lens), .val (.int o), .val (.int c), .val (.int f), .val (.int g), .val (.int l1), .val (.int l2), .val (.int v0), .val (.int v1), .val (.int v2), .val (.int v3), .val (.int v4), .val (.int v5), .val (.int v6), .val (.int v7), .val (.ref b187), .val (.ref b203), .val (.ref b220), .val (.int mm0), .unset, .unset, .unset, .unset] [(.int mm1)])
  refine Win.st ?_ (fun tq kq => XS.istore X264.here hx rfl (hb hby at_277) rfl (l' := #[.val (.int chars), .val (.int sel), .val (.int lens), .val (.int o), .val (.int c), .val (.int f), .val (.int g), .val (.int l1), .val (.int l2), .val (.int v0), .val (.int v1), .val (.int v2), .val (.int v3), .val (.int v4), .val (.int v5), .val (.int v6), .val (.int v7), .val (.ref b187), .val (.ref b203), .val (.ref b220), .val (.int mm0), .val (.int mm1), .unset, .unset, .unset]) rfl kq)
  show Win p e below _ T264 (mkF mt 279 #[.val (.int chars), .val (.int sel), .val (.int lens), .val (.int o), .val (.int c), .val (.int f), .val (.int g), .val (.int l1), .val (.int l2), .val (.int v0), .val (.int v1), .val (.int v2), .val (.int v3), .val (.int v4), .val (.int v5), .val (.int v6), .val (.int v7), .val (.ref b187), .val (.ref b203), .val (.ref b220), .val (.int mm0), .val (.int mm1), .unset, .unset, .unset] [])
  refine Win.st ?_ (fun tq kq => XS.iconst X264.here hx rfl (hb hby at_279) kq)
  show Win p e below _ T264 (mkF mt 280 #[.val (.int chars), .val (.int sel), .val (.int lens), .val (.int o), .val (.int c), .val (.int f), .val (.int g), .val (.int l1), .val (.int l2), .val (.int v0), .val (.int v1), .val (.int v2), .val (.int v3), .val (.int v4), .val (.int v5), .val (.int v6), .val (.int v7), .val (.ref b187), .val (.ref b203), .val (.ref b220), .val (.int mm0), .val (.int mm1), .unset, .unset, .unset] [(.int (2 : Int32))])
  obtain ⟨T265, h265, k265, X265, e265, E265, A265, st265⟩ := newP X264 hx hZ (hw _ (List.mem_of_getElem? (i := 96) rfl)) e264 (g := (mkF mt 280 #[.val (.int chars), .val (.int sel), .val (.int lens), .val (.int o), .val (.int c), .val (.int f), .val (.int g), .val (.int l1), .val (.int l2), .val (.int v0), .val (.int v1), .val (.int v2), .val (.int v3), .val (.int v4), .val (.int v5), .val (.int v6), .val (.int v7), .val (.ref b187), .val (.ref b203), .val (.ref b220), .val (.int mm0), .val (.int mm1), .unset, .unset, .unset] [(.int (2 : Int32))])) rfl (hb hby at_280) rfl (by decide) (cap := 2) (by decide) (by decide) (by decide) (by decide)
  obtain ⟨b265, gq265⟩ : ∃ z, z = h261.size := ⟨_, rfl⟩
  rw [← gq265] at A265 st265
  have ne266 : b187 ≠ b265 := own_new gq265 f262_669.lt
  have ne267 : b203 ≠ b265 := own_new gq265 f262_670.lt
  have ne268 : b220 ≠ b265 := own_new gq265 f262_671.lt
  have ne269 : sr0 ≠ b265 := own_new gq265 f262_672.lt
  have ne270 : st_0 ≠ b265 := own_new gq265 f262_675.lt
  have ne271 : sr1 ≠ b265 := own_new gq265 f262_676.lt
  have ne272 : st_1 ≠ b265 := own_new gq265 f262_679.lt
  have ne273 : tt ≠ b265 := own_new gq265 f262_680.lt
  have g274 : n0 ≤ b265 := own_newle Z263 gq265
  have ke265 := own_kext E265
  replace X265 : Stand p l e _ s mt args below meth cd T265 _ 9 279 := X265
  have f275_720 := f262_668.keep ke265 all0
  have f275_721 := f262_669.keep ke265 nin0
  have f275_722 := f262_670.keep ke265 nin0
  have f275_723 := f262_671.keep ke265
  have f275_724 := f262_672.keep ke265
  have f275_725 := f262_673.keep ke265 nin0
  have f275_726 := f262_674.keep ke265 nin0
  have f275_727 := f262_675.keep ke265 nin0
  have f275_728 := f262_676.keep ke265
  have f275_729 := f262_677.keep ke265 nin0
  have f275_730 := f262_678.keep ke265 nin0
  have f275_731 := f262_679.keep ke265 nin0
  have f275_732 := f262_680.keep ke265 nin0
  have f275_733 := fd261.keep ke265 nin0
  have f275_734 := fm261.keep ke265 nin0
  have f275_735 := fs261.keep ke265 nin0
  have Z276 : n0 ≤ h265.size := Nat.le_trans Z263 ke265.1
  have V265 : Arv Z h265 b265 k265 .int (2 : Int32) [(.int (0 : Int32)), (.int (0 : Int32))] (.int (0 : Int32)) := (Arv.new A265 (by decide)).pad (pad_rep [] (.int (0 : Int32)) 2)
  refine Win.st ?_ st265
  show Win p e below _ T265 (mkF mt 282 #[.val (.int chars), .val (.int sel), .val (.int lens), .val (.int o), .val (.int c), .val (.int f), .val (.int g), .val (.int l1), .val (.int l2), .val (.int v0), .val (.int v1), .val (.int v2), .val (.int v3), .val (.int v4), .val (.int v5), .val (.int v6), .val (.int v7), .val (.ref b187), .val (.ref b203), .val (.ref b220), .val (.int mm0), .val (.int mm1), .unset, .unset, .unset] [(.ref b265)])
  refine Win.st ?_ (fun tq kq => XS.astore X265.here hx rfl (hb hby at_282) rfl rfl (l' := #[.val (.int chars), .val (.int sel), .val (.int lens), .val (.int o), .val (.int c), .val (.int f), .val (.int g), .val (.int l1), .val (.int l2), .val (.int v0), .val (.int v1), .val (.int v2), .val (.int v3), .val (.int v4), .val (.int v5), .val (.int v6), .val (.int v7), .val (.ref b187), .val (.ref b203), .val (.ref b220), .val (.int mm0), .val (.int mm1), .val (.ref b265), .unset, .unset]) rfl kq)
  show Win p e below _ T265 (mkF mt 284 #[.val (.int chars), .val (.int sel), .val (.int lens), .val (.int o), .val (.int c), .val (.int f), .val (.int g), .val (.int l1), .val (.int l2), .val (.int v0), .val (.int v1), .val (.int v2), .val (.int v3), .val (.int v4), .val (.int v5), .val (.int v6), .val (.int v7), .val (.ref b187), .val (.ref b203), .val (.ref b220), .val (.int mm0), .val (.int mm1), .val (.ref b265), .unset, .unset] [])
  refine Win.st ?_ (fun tq kq => XS.aload X265.here hx rfl (hb hby at_284) rfl rfl kq)
  show Win p e below _ T265 (mkF mt 286 #[.val (.int chars), .val (.int sel), .val (.int lens), .val (.int o), .val (.int c), .val (.int f), .val (.int g), .val (.int l1), .val (.int l2), .val (.int v0), .val (.int v1), .val (.int v2), .val (.int v3), .val (.int v4), .val (.int v5), .val (.int v6), .val (.int v7), .val (.ref b187), .val (.ref b203), .val (.ref b220), .val (.int mm0), .val (.int mm1), .val (.ref b265), .unset, .unset] [(.ref b265)])
  refine Win.st ?_ (fun tq kq => XS.iload X265.here hx rfl (hb hby at_286) rfl kq)
  show Win p e below _ T265 (mkF mt 288 #[.val (.int chars), .val (.int sel), .val (.int lens), .val (.int o), .val (.int c), .val (.int f), .val (.int g), .val (.int l1), .val (.int l2), .val (.int v0), .val (.int v1), .val (.int v2), .val (.int v3), .val (.int v4), .val (.int v5), .val (.int v6), .val (.int v7), .val (.ref b187), .val (.ref b203), .val (.ref b220), .val (.int mm0), .val (.int mm1), .val (.ref b265), .unset, .unset] [(.int v0), (.ref b265)])
  refine Win.st ?_ (fun tq kq => XS.iload X265.here hx rfl (hb hby at_288) rfl kq)
  show Win p e below _ T265 (mkF mt 290 #[.val (.int chars), .val (.int sel), .val (.int lens), .val (.int o), .val (.int c), .val (.int f), .val (.int g), .val (.int l1), .val (.int l2), .val (.int v0), .val (.int v1), .val (.int v2), .val (.int v3), .val (.int v4), .val (.int v5), .val (.int v6), .val (.int v7), .val (.ref b187), .val (.ref b203), .val (.ref b220), .val (.int mm0), .val (.int mm1), .val (.ref b265), .unset, .unset] [(.int l1), (.int v0), (.ref b265)])
  have jo0 : ∀ (T277 : State) (L277 : List Loc) (on0 : Int32), Stand p l e room_1 s mt args below meth cd T277 L277 9 279 → T277.heap = h265 → Fr n0 L277 → (on0 = if (0 : Int32) < l1 then (1 : Int32) else 0) → Win p e below (Ends s (Q_law Z chars sel lens cs u h0 n0) 9 279) T277 (mkF mt 298 #[.val (.int chars), .val (.int sel), .val (.int lens), .val (.int o), .val (.int c), .val (.int f), .val (.int g), .val (.int l1), .val (.int l2), .val (.int v0), .val (.int v1), .val (.int v2), .val (.int v3), .val (.int v4), .val (.int v5), .val (.int v6), .val (.int v7), .val (.ref b187), .val (.ref b203), .val (.ref b220), .val (.int mm0), .val (.int mm1), .val (.ref b265), .unset, .unset] [(.int on0), (.int v0), (.ref b265)]) := by
    intro T277 L277 on0 X277 e277 N277 hon0
    refine Win.st ?_ (fun tq kq => XS.iloadN X277.here hx rfl (hb hby at_298) rfl kq)
    show Win p e below _ T277 (mkF mt 299 #[.val (.int chars), .val (.int sel), .val (.int lens), .val (.int o), .val (.int c), .val (.int f), .val (.int g), .val (.int l1), .val (.int l2), .val (.int v0), .val (.int v1), .val (.int v2), .val (.int v3), .val (.int v4), .val (.int v5), .val (.int v6), .val (.int v7), .val (.ref b187), .val (.ref b203), .val (.ref b220), .val (.int mm0), .val (.int mm1), .val (.ref b265), .unset, .unset] [(.int o), (.int on0), (.int v0), (.ref b265)])
    refine Win.st ?_ (fun tq kq => XS.iload X277.here hx rfl (hb hby at_299) rfl kq)
    show Win p e below _ T277 (mkF mt 301 #[.val (.int chars), .val (.int sel), .val (.int lens), .val (.int o), .val (.int c), .val (.int f), .val (.int g), .val (.int l1), .val (.int l2), .val (.int v0), .val (.int v1), .val (.int v2), .val (.int v3), .val (.int v4), .val (.int v5), .val (.int v6), .val (.int v7), .val (.ref b187), .val (.ref b203), .val (.ref b220), .val (.int mm0), .val (.int mm1), .val (.ref b265), .unset, .unset] [(.int c), (.int o), (.int on0), (.int v0), (.ref b265)])
    obtain ⟨v278, _, ⟨T278, L278, k278, n278⟩, -, X278, ⟨Lc278, hQ278, l278, y278, z278⟩, st278⟩ := Jvm.LawKit.callS X277 hx (y := (⟨"com/example/modest_tableau/modesttableau/document/BracketDepthAddPinLaw", "feed", "([IIZII)V"⟩ : MethodName)) hown (mvT hZ (hw _ (List.mem_of_getElem? (i := 97) rfl))) (mvT hZ (hw _ (List.mem_of_getElem? (i := 98) rfl))) (mvT hZ (hw _ (List.mem_of_getElem? (i := 3) rfl))) (mvT hZ (hw _ (List.mem_of_getElem? (i := 99) rfl))) (by decide) (backOf (W := 0) (rm_feed l Z a0 hw [] b265 v0 on0 o c l1 (0 : Int32) (0 : Int32) (0 : Int32) k265 h265 n0 Z276 V265 g274 hon0) hZ (hw _ (List.mem_of_getElem? (i := 99) rfl)) (hw _ (List.mem_of_getElem? (i := 3) rfl)) (by decide) (by decide)) (g := (mkF mt 301 #[.val (.int chars), .val (.int sel), .val (.int lens), .val (.int o), .val (.int c), .val (.int f), .val (.int g), .val (.int l1), .val (.int l2), .val (.int v0), .val (.int v1), .val (.int v2), .val (.int v3), .val (.int v4), .val (.int v5), .val (.int v6), .val (.int v7), .val (.ref b187), .val (.ref b203), .val (.ref b220), .val (.int mm0), .val (.int mm1), .val (.ref b265), .unset, .unset] [(.int c), (.int o), (.int on0), (.int v0), (.ref b265)])) rfl (by rw [hml]; rfl) (argsL := [(.ref b265), (.int v0), (.int on0), (.int o), (.int c)]) (rest := []) (lenOf pd_17 rfl) rfl (by show 2 * 0 + _ ≤ _; exact Nat.le_of_eq rfl) (hb hby at_301) (fun _ _ => ⟨rfl, e277, (by decide : 9 + 0 ≤ _), (by decide : 279 + 0 ≤ _)⟩)
    dsimp only [Pt.U, Pt.locs, Pt.cells, Pt.slots] at X278 l278 y278 z278 st278 hQ278
    subst y278 z278
    replace X278 : Stand p l e _ s mt args below meth cd T278 L278 9 279 := X278
    obtain ⟨h278, e278⟩ : ∃ z, T278.heap = z := ⟨_, rfl⟩
    rw [e278] at hQ278
    obtain ⟨rfl, Nq278, K278, V278⟩ := hQ278
    have N278 : Fr n0 L278 := by rw [l278]; exact Fr.app N277 Nq278
    have Z280 : n0 ≤ h278.size := Nat.le_trans Z276 K278.1
    refine Win.st ?_ st278
    show Win p e below _ T278 (mkF mt 304 #[.val (.int chars), .val (.int sel), .val (.int lens), .val (.int o), .val (.int c), .val (.int f), .val (.int g), .val (.int l1), .val (.int l2), .val (.int v0), .val (.int v1), .val (.int v2), .val (.int v3), .val (.int v4), .val (.int v5), .val (.int v6), .val (.int v7), .val (.ref b187), .val (.ref b203), .val (.ref b220), .val (.int mm0), .val (.int mm1), .val (.ref b265), .unset, .unset] [])
    refine Win.st ?_ (fun tq kq => XS.aload X278.here hx rfl (hb hby at_304) rfl rfl kq)
    show Win p e below _ T278 (mkF mt 306 #[.val (.int chars), .val (.int sel), .val (.int lens), .val (.int o), .val (.int c), .val (.int f), .val (.int g), .val (.int l1), .val (.int l2), .val (.int v0), .val (.int v1), .val (.int v2), .val (.int v3), .val (.int v4), .val (.int v5), .val (.int v6), .val (.int v7), .val (.ref b187), .val (.ref b203), .val (.ref b220), .val (.int mm0), .val (.int mm1), .val (.ref b265), .unset, .unset] [(.ref b265)])
    refine Win.st ?_ (fun tq kq => XS.iload X278.here hx rfl (hb hby at_306) rfl kq)
    show Win p e below _ T278 (mkF mt 308 #[.val (.int chars), .val (.int sel), .val (.int lens), .val (.int o), .val (.int c), .val (.int f), .val (.int g), .val (.int l1), .val (.int l2), .val (.int v0), .val (.int v1), .val (.int v2), .val (.int v3), .val (.int v4), .val (.int v5), .val (.int v6), .val (.int v7), .val (.ref b187), .val (.ref b203), .val (.ref b220), .val (.int mm0), .val (.int mm1), .val (.ref b265), .unset, .unset] [(.int v1), (.ref b265)])
    refine Win.st ?_ (fun tq kq => XS.iload X278.here hx rfl (hb hby at_308) rfl kq)
    show Win p e below _ T278 (mkF mt 310 #[.val (.int chars), .val (.int sel), .val (.int lens), .val (.int o), .val (.int c), .val (.int f), .val (.int g), .val (.int l1), .val (.int l2), .val (.int v0), .val (.int v1), .val (.int v2), .val (.int v3), .val (.int v4), .val (.int v5), .val (.int v6), .val (.int v7), .val (.ref b187), .val (.ref b203), .val (.ref b220), .val (.int mm0), .val (.int mm1), .val (.ref b265), .unset, .unset] [(.int l1), (.int v1), (.ref b265)])
    refine Win.st ?_ (fun tq kq => XS.iconst X278.here hx rfl (hb hby at_310) kq)
    show Win p e below _ T278 (mkF mt 311 #[.val (.int chars), .val (.int sel), .val (.int lens), .val (.int o), .val (.int c), .val (.int f), .val (.int g), .val (.int l1), .val (.int l2), .val (.int v0), .val (.int v1), .val (.int v2), .val (.int v3), .val (.int v4), .val (.int v5), .val (.int v6), .val (.int v7), .val (.ref b187), .val (.ref b203), .val (.ref b220), .val (.int mm0), .val (.int mm1), .val (.ref b265), .unset, .unset] [(.int (1 : Int32)), (.int l1), (.int v1), (.ref b265)])
    have jo1 : ∀ (T281 : State) (L281 : List Loc) (on1 : Int32), Stand p l e room_1 s mt args below meth cd T281 L281 9 279 → T281.heap = h278 → Fr n0 L281 → (on1 = if (1 : Int32) < l1 then (1 : Int32) else 0) → Win p e below (Ends s (Q_law Z chars sel lens cs u h0 n0) 9 279) T281 (mkF mt 319 #[.val (.int chars), .val (.int sel), .val (.int lens), .val (.int o), .val (.int c), .val (.int f), .val (.int g), .val (.int l1), .val (.int l2), .val (.int v0), .val (.int v1), .val (.int v2), .val (.int v3), .val (.int v4), .val (.int v5), .val (.int v6), .val (.int v7), .val (.ref b187), .val (.ref b203), .val (.ref b220), .val (.int mm0), .val (.int mm1), .val (.ref b265), .unset, .unset] [(.int on1), (.int v1), (.ref b265)]) := by
      intro T281 L281 on1 X281 e281 N281 hon1
      refine Win.st ?_ (fun tq kq => XS.iloadN X281.here hx rfl (hb hby at_319) rfl kq)
      show Win p e below _ T281 (mkF mt 320 #[.val (.int chars), .val (.int sel), .val (.int lens), .val (.int o), .val (.int c), .val (.int f), .val (.int g), .val (.int l1), .val (.int l2), .val (.int v0), .val (.int v1), .val (.int v2), .val (.int v3), .val (.int v4), .val (.int v5), .val (.int v6), .val (.int v7), .val (.ref b187), .val (.ref b203), .val (.ref b220), .val (.int mm0), .val (.int mm1), .val (.ref b265), .unset, .unset] [(.int o), (.int on1), (.int v1), (.ref b265)])
      refine Win.st ?_ (fun tq kq => XS.iload X281.here hx rfl (hb hby at_320) rfl kq)
      show Win p e below _ T281 (mkF mt 322 #[.val (.int chars), .val (.int sel), .val (.int lens), .val (.int o), .val (.int c), .val (.int f), .val (.int g), .val (.int l1), .val (.int l2), .val (.int v0), .val (.int v1), .val (.int v2), .val (.int v3), .val (.int v4), .val (.int v5), .val (.int v6), .val (.int v7), .val (.ref b187), .val (.ref b203), .val (.ref b220), .val (.int mm0), .val (.int mm1), .val (.ref b265), .unset, .unset] [(.int c), (.int o), (.int on1), (.int v1), (.ref b265)])
      obtain ⟨v282, _, ⟨T282, L282, k282, n282⟩, -, X282, ⟨Lc282, hQ282, l282, y282, z282⟩, st282⟩ := Jvm.LawKit.callS X281 hx (y := (⟨"com/example/modest_tableau/modesttableau/document/BracketDepthAddPinLaw", "feed", "([IIZII)V"⟩ : MethodName)) hown (mvT hZ (hw _ (List.mem_of_getElem? (i := 97) rfl))) (mvT hZ (hw _ (List.mem_of_getElem? (i := 98) rfl))) (mvT hZ (hw _ (List.mem_of_getElem? (i := 3) rfl))) (mvT hZ (hw _ (List.mem_of_getElem? (i := 99) rfl))) (by decide) (backOf (W := 0) (rm_feed l Z a0 hw [] b265 v1 on1 o c l1 (1 : Int32) (own_fd l1 (0 : Int32) (0 : Int32) (own_s o c v0)) (own_fm l1 (0 : Int32) (0 : Int32) (0 : Int32) (own_s o c v0)) k265 h278 n0 Z280 V278 g274 hon1) hZ (hw _ (List.mem_of_getElem? (i := 99) rfl)) (hw _ (List.mem_of_getElem? (i := 3) rfl)) (by decide) (by decide)) (g := (mkF mt 322 #[.val (.int chars), .val (.int sel), .val (.int lens), .val (.int o), .val (.int c), .val (.int f), .val (.int g), .val (.int l1), .val (.int l2), .val (.int v0), .val (.int v1), .val (.int v2), .val (.int v3), .val (.int v4), .val (.int v5), .val (.int v6), .val (.int v7), .val (.ref b187), .val (.ref b203), .val (.ref b220), .val (.int mm0), .val (.int mm1), .val (.ref b265), .unset, .unset] [(.int c), (.int o), (.int on1), (.int v1), (.ref b265)])) rfl (by rw [hml]; rfl) (argsL := [(.ref b265), (.int v1), (.int on1), (.int o), (.int c)]) (rest := []) (lenOf pd_17 rfl) rfl (by show 2 * 0 + _ ≤ _; exact Nat.le_of_eq rfl) (hb hby at_322) (fun _ _ => ⟨rfl, e281, (by decide : 9 + 0 ≤ _), (by decide : 279 + 0 ≤ _)⟩)
      dsimp only [Pt.U, Pt.locs, Pt.cells, Pt.slots] at X282 l282 y282 z282 st282 hQ282
      subst y282 z282
      replace X282 : Stand p l e _ s mt args below meth cd T282 L282 9 279 := X282
      obtain ⟨h282, e282⟩ : ∃ z, T282.heap = z := ⟨_, rfl⟩
      rw [e282] at hQ282
      obtain ⟨rfl, Nq282, K282, V282⟩ := hQ282
      have N282 : Fr n0 L282 := by rw [l282]; exact Fr.app N281 Nq282
      have Z284 : n0 ≤ h282.size := Nat.le_trans Z280 K282.1
      refine Win.st ?_ st282
      show Win p e below _ T282 (mkF mt 325 #[.val (.int chars), .val (.int sel), .val (.int lens), .val (.int o), .val (.int c), .val (.int f), .val (.int g), .val (.int l1), .val (.int l2), .val (.int v0), .val (.int v1), .val (.int v2), .val (.int v3), .val (.int v4), .val (.int v5), .val (.int v6), .val (.int v7), .val (.ref b187), .val (.ref b203), .val (.ref b220), .val (.int mm0), .val (.int mm1), .val (.ref b265), .unset, .unset] [])
      refine Win.st ?_ (fun tq kq => XS.aload X282.here hx rfl (hb hby at_325) rfl rfl kq)
      show Win p e below _ T282 (mkF mt 327 #[.val (.int chars), .val (.int sel), .val (.int lens), .val (.int o), .val (.int c), .val (.int f), .val (.int g), .val (.int l1), .val (.int l2), .val (.int v0), .val (.int v1), .val (.int v2), .val (.int v3), .val (.int v4), .val (.int v5), .val (.int v6), .val (.int v7), .val (.ref b187), .val (.ref b203), .val (.ref b220), .val (.int mm0), .val (.int mm1), .val (.ref b265), .unset, .unset] [(.ref b265)])
      refine Win.st ?_ (fun tq kq => XS.iload X282.here hx rfl (hb hby at_327) rfl kq)
      show Win p e below _ T282 (mkF mt 329 #[.val (.int chars), .val (.int sel), .val (.int lens), .val (.int o), .val (.int c), .val (.int f), .val (.int g), .val (.int l1), .val (.int l2), .val (.int v0), .val (.int v1), .val (.int v2), .val (.int v3), .val (.int v4), .val (.int v5), .val (.int v6), .val (.int v7), .val (.ref b187), .val (.ref b203), .val (.ref b220), .val (.int mm0), .val (.int mm1), .val (.ref b265), .unset, .unset] [(.int v2), (.ref b265)])
      refine Win.st ?_ (fun tq kq => XS.iload X282.here hx rfl (hb hby at_329) rfl kq)
      show Win p e below _ T282 (mkF mt 331 #[.val (.int chars), .val (.int sel), .val (.int lens), .val (.int o), .val (.int c), .val (.int f), .val (.int g), .val (.int l1), .val (.int l2), .val (.int v0), .val (.int v1), .val (.int v2), .val (.int v3), .val (.int v4), .val (.int v5), .val (.int v6), .val (.int v7), .val (.ref b187), .val (.ref b203), .val (.ref b220), .val (.int mm0), .val (.int mm1), .val (.ref b265), .unset, .unset] [(.int l1), (.int v2), (.ref b265)])
      refine Win.st ?_ (fun tq kq => XS.iconst X282.here hx rfl (hb hby at_331) kq)
      show Win p e below _ T282 (mkF mt 332 #[.val (.int chars), .val (.int sel), .val (.int lens), .val (.int o), .val (.int c), .val (.int f), .val (.int g), .val (.int l1), .val (.int l2), .val (.int v0), .val (.int v1), .val (.int v2), .val (.int v3), .val (.int v4), .val (.int v5), .val (.int v6), .val (.int v7), .val (.ref b187), .val (.ref b203), .val (.ref b220), .val (.int mm0), .val (.int mm1), .val (.ref b265), .unset, .unset] [(.int (2 : Int32)), (.int l1), (.int v2), (.ref b265)])
      have jo2 : ∀ (T285 : State) (L285 : List Loc) (on2 : Int32), Stand p l e room_1 s mt args below meth cd T285 L285 9 279 → T285.heap = h282 → Fr n0 L285 → (on2 = if (2 : Int32) < l1 then (1 : Int32) else 0) → Win p e below (Ends s (Q_law Z chars sel lens cs u h0 n0) 9 279) T285 (mkF mt 340 #[.val (.int chars), .val (.int sel), .val (.int lens), .val (.int o), .val (.int c), .val (.int f), .val (.int g), .val (.int l1), .val (.int l2), .val (.int v0), .val (.int v1), .val (.int v2), .val (.int v3), .val (.int v4), .val (.int v5), .val (.int v6), .val (.int v7), .val (.ref b187), .val (.ref b203), .val (.ref b220), .val (.int mm0), .val (.int mm1), .val (.ref b265), .unset, .unset] [(.int on2), (.int v2), (.ref b265)]) := by
        intro T285 L285 on2 X285 e285 N285 hon2
        refine Win.st ?_ (fun tq kq => XS.iloadN X285.here hx rfl (hb hby at_340) rfl kq)
        show Win p e below _ T285 (mkF mt 341 #[.val (.int chars), .val (.int sel), .val (.int lens), .val (.int o), .val (.int c), .val (.int f), .val (.int g), .val (.int l1), .val (.int l2), .val (.int v0), .val (.int v1), .val (.int v2), .val (.int v3), .val (.int v4), .val (.int v5), .val (.int v6), .val (.int v7), .val (.ref b187), .val (.ref b203), .val (.ref b220), .val (.int mm0), .val (.int mm1), .val (.ref b265), .unset, .unset] [(.int o), (.int on2), (.int v2), (.ref b265)])
        refine Win.st ?_ (fun tq kq => XS.iload X285.here hx rfl (hb hby at_341) rfl kq)
        show Win p e below _ T285 (mkF mt 343 #[.val (.int chars), .val (.int sel), .val (.int lens), .val (.int o), .val (.int c), .val (.int f), .val (.int g), .val (.int l1), .val (.int l2), .val (.int v0), .val (.int v1), .val (.int v2), .val (.int v3), .val (.int v4), .val (.int v5), .val (.int v6), .val (.int v7), .val (.ref b187), .val (.ref b203), .val (.ref b220), .val (.int mm0), .val (.int mm1), .val (.ref b265), .unset, .unset] [(.int c), (.int o), (.int on2), (.int v2), (.ref b265)])
        obtain ⟨v286, _, ⟨T286, L286, k286, n286⟩, -, X286, ⟨Lc286, hQ286, l286, y286, z286⟩, st286⟩ := Jvm.LawKit.callS X285 hx (y := (⟨"com/example/modest_tableau/modesttableau/document/BracketDepthAddPinLaw", "feed", "([IIZII)V"⟩ : MethodName)) hown (mvT hZ (hw _ (List.mem_of_getElem? (i := 97) rfl))) (mvT hZ (hw _ (List.mem_of_getElem? (i := 98) rfl))) (mvT hZ (hw _ (List.mem_of_getElem? (i := 3) rfl))) (mvT hZ (hw _ (List.mem_of_getElem? (i := 99) rfl))) (by decide) (backOf (W := 0) (rm_feed l Z a0 hw [] b265 v2 on2 o c l1 (2 : Int32) (own_fd l1 (1 : Int32) (own_fd l1 (0 : Int32) (0 : Int32) (own_s o c v0)) (own_s o c v1)) (own_fm l1 (1 : Int32) (own_fd l1 (0 : Int32) (0 : Int32) (own_s o c v0)) (own_fm l1 (0 : Int32) (0 : Int32) (0 : Int32) (own_s o c v0)) (own_s o c v1)) k265 h282 n0 Z284 V282 g274 hon2) hZ (hw _ (List.mem_of_getElem? (i := 99) rfl)) (hw _ (List.mem_of_getElem? (i := 3) rfl)) (by decide) (by decide)) (g := (mkF mt 343 #[.val (.int chars), .val (.int sel), .val (.int lens), .val (.int o), .val (.int c), .val (.int f), .val (.int g), .val (.int l1), .val (.int l2), .val (.int v0), .val (.int v1), .val (.int v2), .val (.int v3), .val (.int v4), .val (.int v5), .val (.int v6), .val (.int v7), .val (.ref b187), .val (.ref b203), .val (.ref b220), .val (.int mm0), .val (.int mm1), .val (.ref b265), .unset, .unset] [(.int c), (.int o), (.int on2), (.int v2), (.ref b265)])) rfl (by rw [hml]; rfl) (argsL := [(.ref b265), (.int v2), (.int on2), (.int o), (.int c)]) (rest := []) (lenOf pd_17 rfl) rfl (by show 2 * 0 + _ ≤ _; exact Nat.le_of_eq rfl) (hb hby at_343) (fun _ _ => ⟨rfl, e285, (by decide : 9 + 0 ≤ _), (by decide : 279 + 0 ≤ _)⟩)
        dsimp only [Pt.U, Pt.locs, Pt.cells, Pt.slots] at X286 l286 y286 z286 st286 hQ286
        subst y286 z286
        replace X286 : Stand p l e _ s mt args below meth cd T286 L286 9 279 := X286
        obtain ⟨h286, e286⟩ : ∃ z, T286.heap = z := ⟨_, rfl⟩
        rw [e286] at hQ286
        obtain ⟨rfl, Nq286, K286, V286⟩ := hQ286
        have N286 : Fr n0 L286 := by rw [l286]; exact Fr.app N285 Nq286
        have Z288 : n0 ≤ h286.size := Nat.le_trans Z284 K286.1
        refine Win.st ?_ st286
        show Win p e below _ T286 (mkF mt 346 #[.val (.int chars), .val (.int sel), .val (.int lens), .val (.int o), .val (.int c), .val (.int f), .val (.int g), .val (.int l1), .val (.int l2), .val (.int v0), .val (.int v1), .val (.int v2), .val (.int v3), .val (.int v4), .val (.int v5), .val (.int v6), .val (.int v7), .val (.ref b187), .val (.ref b203), .val (.ref b220), .val (.int mm0), .val (.int mm1), .val (.ref b265), .unset, .unset] [])
        refine Win.st ?_ (fun tq kq => XS.aload X286.here hx rfl (hb hby at_346) rfl rfl kq)
        show Win p e below _ T286 (mkF mt 348 #[.val (.int chars), .val (.int sel), .val (.int lens), .val (.int o), .val (.int c), .val (.int f), .val (.int g), .val (.int l1), .val (.int l2), .val (.int v0), .val (.int v1), .val (.int v2), .val (.int v3), .val (.int v4), .val (.int v5), .val (.int v6), .val (.int v7), .val (.ref b187), .val (.ref b203), .val (.ref b220), .val (.int mm0), .val (.int mm1), .val (.ref b265), .unset, .unset] [(.ref b265)])
        refine Win.st ?_ (fun tq kq => XS.iload X286.here hx rfl (hb hby at_348) rfl kq)
        show Win p e below _ T286 (mkF mt 350 #[.val (.int chars), .val (.int sel), .val (.int lens), .val (.int o), .val (.int c), .val (.int f), .val (.int g), .val (.int l1), .val (.int l2), .val (.int v0), .val (.int v1), .val (.int v2), .val (.int v3), .val (.int v4), .val (.int v5), .val (.int v6), .val (.int v7), .val (.ref b187), .val (.ref b203), .val (.ref b220), .val (.int mm0), .val (.int mm1), .val (.ref b265), .unset, .unset] [(.int v3), (.ref b265)])
        refine Win.st ?_ (fun tq kq => XS.iload X286.here hx rfl (hb hby at_350) rfl kq)
        show Win p e below _ T286 (mkF mt 352 #[.val (.int chars), .val (.int sel), .val (.int lens), .val (.int o), .val (.int c), .val (.int f), .val (.int g), .val (.int l1), .val (.int l2), .val (.int v0), .val (.int v1), .val (.int v2), .val (.int v3), .val (.int v4), .val (.int v5), .val (.int v6), .val (.int v7), .val (.ref b187), .val (.ref b203), .val (.ref b220), .val (.int mm0), .val (.int mm1), .val (.ref b265), .unset, .unset] [(.int l1), (.int v3), (.ref b265)])
        refine Win.st ?_ (fun tq kq => XS.iconst X286.here hx rfl (hb hby at_352) kq)
        show Win p e below _ T286 (mkF mt 353 #[.val (.int chars), .val (.int sel), .val (.int lens), .val (.int o), .val (.int c), .val (.int f), .val (.int g), .val (.int l1), .val (.int l2), .val (.int v0), .val (.int v1), .val (.int v2), .val (.int v3), .val (.int v4), .val (.int v5), .val (.int v6), .val (.int v7), .val (.ref b187), .val (.ref b203), .val (.ref b220), .val (.int mm0), .val (.int mm1), .val (.ref b265), .unset, .unset] [(.int (3 : Int32)), (.int l1), (.int v3), (.ref b265)])
        have jo3 : ∀ (T289 : State) (L289 : List Loc) (on3 : Int32), Stand p l e room_1 s mt args below meth cd T289 L289 9 279 → T289.heap = h286 → Fr n0 L289 → (on3 = if (3 : Int32) < l1 then (1 : Int32) else 0) → Win p e below (Ends s (Q_law Z chars sel lens cs u h0 n0) 9 279) T289 (mkF mt 361 #[.val (.int chars), .val (.int sel), .val (.int lens), .val (.int o), .val (.int c), .val (.int f), .val (.int g), .val (.int l1), .val (.int l2), .val (.int v0), .val (.int v1), .val (.int v2), .val (.int v3), .val (.int v4), .val (.int v5), .val (.int v6), .val (.int v7), .val (.ref b187), .val (.ref b203), .val (.ref b220), .val (.int mm0), .val (.int mm1), .val (.ref b265), .unset, .unset] [(.int on3), (.int v3), (.ref b265)]) := by
          intro T289 L289 on3 X289 e289 N289 hon3
          refine Win.st ?_ (fun tq kq => XS.iloadN X289.here hx rfl (hb hby at_361) rfl kq)
          show Win p e below _ T289 (mkF mt 362 #[.val (.int chars), .val (.int sel), .val (.int lens), .val (.int o), .val (.int c), .val (.int f), .val (.int g), .val (.int l1), .val (.int l2), .val (.int v0), .val (.int v1), .val (.int v2), .val (.int v3), .val (.int v4), .val (.int v5), .val (.int v6), .val (.int v7), .val (.ref b187), .val (.ref b203), .val (.ref b220), .val (.int mm0), .val (.int mm1), .val (.ref b265), .unset, .unset] [(.int o), (.int on3), (.int v3), (.ref b265)])
          refine Win.st ?_ (fun tq kq => XS.iload X289.here hx rfl (hb hby at_362) rfl kq)
          show Win p e below _ T289 (mkF mt 364 #[.val (.int chars), .val (.int sel), .val (.int lens), .val (.int o), .val (.int c), .val (.int f), .val (.int g), .val (.int l1), .val (.int l2), .val (.int v0), .val (.int v1), .val (.int v2), .val (.int v3), .val (.int v4), .val (.int v5), .val (.int v6), .val (.int v7), .val (.ref b187), .val (.ref b203), .val (.ref b220), .val (.int mm0), .val (.int mm1), .val (.ref b265), .unset, .unset] [(.int c), (.int o), (.int on3), (.int v3), (.ref b265)])
          obtain ⟨v290, _, ⟨T290, L290, k290, n290⟩, -, X290, ⟨Lc290, hQ290, l290, y290, z290⟩, st290⟩ := Jvm.LawKit.callS X289 hx (y := (⟨"com/example/modest_tableau/modesttableau/document/BracketDepthAddPinLaw", "feed", "([IIZII)V"⟩ : MethodName)) hown (mvT hZ (hw _ (List.mem_of_getElem? (i := 97) rfl))) (mvT hZ (hw _ (List.mem_of_getElem? (i := 98) rfl))) (mvT hZ (hw _ (List.mem_of_getElem? (i := 3) rfl))) (mvT hZ (hw _ (List.mem_of_getElem? (i := 99) rfl))) (by decide) (backOf (W := 0) (rm_feed l Z a0 hw [] b265 v3 on3 o c l1 (3 : Int32) (own_fd l1 (2 : Int32) (own_fd l1 (1 : Int32) (own_fd l1 (0 : Int32) (0 : Int32) (own_s o c v0)) (own_s o c v1)) (own_s o c v2)) (own_fm l1 (2 : Int32) (own_fd l1 (1 : Int32) (own_fd l1 (0 : Int32) (0 : Int32) (own_s o c v0)) (own_s o c v1)) (own_fm l1 (1 : Int32) (own_fd l1 (0 : Int32) (0 : Int32) (own_s o c v0)) (own_fm l1 (0 : Int32) (0 : Int32) (0 : Int32) (own_s o c v0)) (own_s o c v1)) (own_s o c v2)) k265 h286 n0 Z288 V286 g274 hon3) hZ (hw _ (List.mem_of_getElem? (i := 99) rfl)) (hw _ (List.mem_of_getElem? (i := 3) rfl)) (by decide) (by decide)) (g := (mkF mt 364 #[.val (.int chars), .val (.int sel), .val (.int lens), .val (.int o), .val (.int c), .val (.int f), .val (.int g), .val (.int l1), .val (.int l2), .val (.int v0), .val (.int v1), .val (.int v2), .val (.int v3), .val (.int v4), .val (.int v5), .val (.int v6), .val (.int v7), .val (.ref b187), .val (.ref b203), .val (.ref b220), .val (.int mm0), .val (.int mm1), .val (.ref b265), .unset, .unset] [(.int c), (.int o), (.int on3), (.int v3), (.ref b265)])) rfl (by rw [hml]; rfl) (argsL := [(.ref b265), (.int v3), (.int on3), (.int o), (.int c)]) (rest := []) (lenOf pd_17 rfl) rfl (by show 2 * 0 + _ ≤ _; exact Nat.le_of_eq rfl) (hb hby at_364) (fun _ _ => ⟨rfl, e289, (by decide : 9 + 0 ≤ _), (by decide : 279 + 0 ≤ _)⟩)
          dsimp only [Pt.U, Pt.locs, Pt.cells, Pt.slots] at X290 l290 y290 z290 st290 hQ290
          subst y290 z290
          replace X290 : Stand p l e _ s mt args below meth cd T290 L290 9 279 := X290
          obtain ⟨h290, e290⟩ : ∃ z, T290.heap = z := ⟨_, rfl⟩
          rw [e290] at hQ290
          obtain ⟨rfl, Nq290, K290, V290⟩ := hQ290
          have N290 : Fr n0 L290 := by rw [l290]; exact Fr.app N289 Nq290
          have Z292 : n0 ≤ h290.size := Nat.le_trans Z288 K290.1
          rw [← hdd0, ← hmm0] at V290
          refine Win.st ?_ st290
          show Win p e below _ T290 (mkF mt 367 #[.val (.int chars), .val (.int sel), .val (.int lens), .val (.int o), .val (.int c), .val (.int f), .val (.int g), .val (.int l1), .val (.int l2), .val (.int v0), .val (.int v1), .val (.int v2), .val (.int v3), .val (.int v4), .val (.int v5), .val (.int v6), .val (.int v7), .val (.ref b187), .val (.ref b203), .val (.ref b220), .val (.int mm0), .val (.int mm1), .val (.ref b265), .unset, .unset] [])
          refine Win.st ?_ (fun tq kq => XS.aload X290.here hx rfl (hb hby at_367) rfl rfl kq)
          show Win p e below _ T290 (mkF mt 369 #[.val (.int chars), .val (.int sel), .val (.int lens), .val (.int o), .val (.int c), .val (.int f), .val (.int g), .val (.int l1), .val (.int l2), .val (.int v0), .val (.int v1), .val (.int v2), .val (.int v3), .val (.int v4), .val (.int v5), .val (.int v6), .val (.int v7), .val (.ref b187), .val (.ref b203), .val (.ref b220), .val (.int mm0), .val (.int mm1), .val (.ref b265), .unset, .unset] [(.ref b265)])
          refine Win.st ?_ (fun tq kq => XS.iconst X290.here hx rfl (hb hby at_369) kq)
          show Win p e below _ T290 (mkF mt 370 #[.val (.int chars), .val (.int sel), .val (.int lens), .val (.int o), .val (.int c), .val (.int f), .val (.int g), .val (.int l1), .val (.int l2), .val (.int v0), .val (.int v1), .val (.int v2), .val (.int v3), .val (.int v4), .val (.int v5), .val (.int v6), .val (.int v7), .val (.ref b187), .val (.ref b203), .val (.ref b220), .val (.int mm0), .val (.int mm1), .val (.ref b265), .unset, .unset] [(.int (1 : Int32)), (.ref b265)])
          refine Win.st ?_ (own_iald (g := (mkF mt 370 #[.val (.int chars), .val (.int sel), .val (.int lens), .val (.int o), .val (.int c), .val (.int f), .val (.int g), .val (.int l1), .val (.int l2), .val (.int v0), .val (.int v1), .val (.int v2), .val (.int v3), .val (.int v4), .val (.int v5), .val (.int v6), .val (.int v7), .val (.ref b187), .val (.ref b203), .val (.ref b220), .val (.int mm0), .val (.int mm1), .val (.ref b265), .unset, .unset] [(.int (1 : Int32)), (.ref b265)])) X290 hx hZ e290 V290 (j := (1 : Int32)) (v := (.int mm0)) (by decide) (by decide) rfl rfl rfl (hb hby at_370))
          show Win p e below _ T290 (mkF mt 371 #[.val (.int chars), .val (.int sel), .val (.int lens), .val (.int o), .val (.int c), .val (.int f), .val (.int g), .val (.int l1), .val (.int l2), .val (.int v0), .val (.int v1), .val (.int v2), .val (.int v3), .val (.int v4), .val (.int v5), .val (.int v6), .val (.int v7), .val (.ref b187), .val (.ref b203), .val (.ref b220), .val (.int mm0), .val (.int mm1), .val (.ref b265), .unset, .unset] [(.int mm0)])
          refine Win.st ?_ (fun tq kq => XS.istore X290.here hx rfl (hb hby at_371) rfl (l' := #[.val (.int chars), .val (.int sel), .val (.int lens), .val (.int o), .val (.int c), .val (.int f), .val (.int g), .val (.int l1), .val (.int l2), .val (.int v0), .val (.int v1), .val (.int v2), .val (.int v3), .val (.int v4), .val (.int v5), .val (.int v6), .val (.int v7), .val (.ref b187), .val (.ref b203), .val (.ref b220), .val (.int mm0), .val (.int mm1), .val (.ref b265), .val (.int mm0), .unset]) rfl kq)
          show Win p e below _ T290 (mkF mt 373 #[.val (.int chars), .val (.int sel), .val (.int lens), .val (.int o), .val (.int c), .val (.int f), .val (.int g), .val (.int l1), .val (.int l2), .val (.int v0), .val (.int v1), .val (.int v2), .val (.int v3), .val (.int v4), .val (.int v5), .val (.int v6), .val (.int v7), .val (.ref b187), .val (.ref b203), .val (.ref b220), .val (.int mm0), .val (.int mm1), .val (.ref b265), .val (.int mm0), .unset] [])
          refine Win.st ?_ (fun tq kq => XS.aload X290.here hx rfl (hb hby at_373) rfl rfl kq)
          show Win p e below _ T290 (mkF mt 375 #[.val (.int chars), .val (.int sel), .val (.int lens), .val (.int o), .val (.int c), .val (.int f), .val (.int g), .val (.int l1), .val (.int l2), .val (.int v0), .val (.int v1), .val (.int v2), .val (.int v3), .val (.int v4), .val (.int v5), .val (.int v6), .val (.int v7), .val (.ref b187), .val (.ref b203), .val (.ref b220), .val (.int mm0), .val (.int mm1), .val (.ref b265), .val (.int mm0), .unset] [(.ref b265)])
          refine Win.st ?_ (fun tq kq => XS.iload X290.here hx rfl (hb hby at_375) rfl kq)
          show Win p e below _ T290 (mkF mt 377 #[.val (.int chars), .val (.int sel), .val (.int lens), .val (.int o), .val (.int c), .val (.int f), .val (.int g), .val (.int l1), .val (.int l2), .val (.int v0), .val (.int v1), .val (.int v2), .val (.int v3), .val (.int v4), .val (.int v5), .val (.int v6), .val (.int v7), .val (.ref b187), .val (.ref b203), .val (.ref b220), .val (.int mm0), .val (.int mm1), .val (.ref b265), .val (.int mm0), .unset] [(.int v4), (.ref b265)])
          refine Win.st ?_ (fun tq kq => XS.iload X290.here hx rfl (hb hby at_377) rfl kq)
          show Win p e below _ T290 (mkF mt 379 #[.val (.int chars), .val (.int sel), .val (.int lens), .val (.int o), .val (.int c), .val (.int f), .val (.int g), .val (.int l1), .val (.int l2), .val (.int v0), .val (.int v1), .val (.int v2), .val (.int v3), .val (.int v4), .val (.int v5), .val (.int v6), .val (.int v7), .val (.ref b187), .val (.ref b203), .val (.ref b220), .val (.int mm0), .val (.int mm1), .val (.ref b265), .val (.int mm0), .unset] [(.int l2), (.int v4), (.ref b265)])
          have jo4 : ∀ (T293 : State) (L293 : List Loc) (on4 : Int32), Stand p l e room_1 s mt args below meth cd T293 L293 9 279 → T293.heap = h290 → Fr n0 L293 → (on4 = if (0 : Int32) < l2 then (1 : Int32) else 0) → Win p e below (Ends s (Q_law Z chars sel lens cs u h0 n0) 9 279) T293 (mkF mt 387 #[.val (.int chars), .val (.int sel), .val (.int lens), .val (.int o), .val (.int c), .val (.int f), .val (.int g), .val (.int l1), .val (.int l2), .val (.int v0), .val (.int v1), .val (.int v2), .val (.int v3), .val (.int v4), .val (.int v5), .val (.int v6), .val (.int v7), .val (.ref b187), .val (.ref b203), .val (.ref b220), .val (.int mm0), .val (.int mm1), .val (.ref b265), .val (.int mm0), .unset] [(.int on4), (.int v4), (.ref b265)]) := by
            intro T293 L293 on4 X293 e293 N293 hon4
            refine Win.st ?_ (fun tq kq => XS.iloadN X293.here hx rfl (hb hby at_387) rfl kq)
            show Win p e below _ T293 (mkF mt 388 #[.val (.int chars), .val (.int sel), .val (.int lens), .val (.int o), .val (.int c), .val (.int f), .val (.int g), .val (.int l1), .val (.int l2), .val (.int v0), .val (.int v1), .val (.int v2), .val (.int v3), .val (.int v4), .val (.int v5), .val (.int v6), .val (.int v7), .val (.ref b187), .val (.ref b203), .val (.ref b220), .val (.int mm0), .val (.int mm1), .val (.ref b265), .val (.int mm0), .unset] [(.int o), (.int on4), (.int v4), (.ref b265)])
            refine Win.st ?_ (fun tq kq => XS.iload X293.here hx rfl (hb hby at_388) rfl kq)
            show Win p e below _ T293 (mkF mt 390 #[.val (.int chars), .val (.int sel), .val (.int lens), .val (.int o), .val (.int c), .val (.int f), .val (.int g), .val (.int l1), .val (.int l2), .val (.int v0), .val (.int v1), .val (.int v2), .val (.int v3), .val (.int v4), .val (.int v5), .val (.int v6), .val (.int v7), .val (.ref b187), .val (.ref b203), .val (.ref b220), .val (.int mm0), .val (.int mm1), .val (.ref b265), .val (.int mm0), .unset] [(.int c), (.int o), (.int on4), (.int v4), (.ref b265)])
            obtain ⟨v294, _, ⟨T294, L294, k294, n294⟩, -, X294, ⟨Lc294, hQ294, l294, y294, z294⟩, st294⟩ := Jvm.LawKit.callS X293 hx (y := (⟨"com/example/modest_tableau/modesttableau/document/BracketDepthAddPinLaw", "feed", "([IIZII)V"⟩ : MethodName)) hown (mvT hZ (hw _ (List.mem_of_getElem? (i := 97) rfl))) (mvT hZ (hw _ (List.mem_of_getElem? (i := 98) rfl))) (mvT hZ (hw _ (List.mem_of_getElem? (i := 3) rfl))) (mvT hZ (hw _ (List.mem_of_getElem? (i := 99) rfl))) (by decide) (backOf (W := 0) (rm_feed l Z a0 hw [] b265 v4 on4 o c l2 (0 : Int32) dd0 mm0 k265 h290 n0 Z292 V290 g274 hon4) hZ (hw _ (List.mem_of_getElem? (i := 99) rfl)) (hw _ (List.mem_of_getElem? (i := 3) rfl)) (by decide) (by decide)) (g := (mkF mt 390 #[.val (.int chars), .val (.int sel), .val (.int lens), .val (.int o), .val (.int c), .val (.int f), .val (.int g), .val (.int l1), .val (.int l2), .val (.int v0), .val (.int v1), .val (.int v2), .val (.int v3), .val (.int v4), .val (.int v5), .val (.int v6), .val (.int v7), .val (.ref b187), .val (.ref b203), .val (.ref b220), .val (.int mm0), .val (.int mm1), .val (.ref b265), .val (.int mm0), .unset] [(.int c), (.int o), (.int on4), (.int v4), (.ref b265)])) rfl (by rw [hml]; rfl) (argsL := [(.ref b265), (.int v4), (.int on4), (.int o), (.int c)]) (rest := []) (lenOf pd_17 rfl) rfl (by show 2 * 0 + _ ≤ _; exact Nat.le_of_eq rfl) (hb hby at_390) (fun _ _ => ⟨rfl, e293, (by decide : 9 + 0 ≤ _), (by decide : 279 + 0 ≤ _)⟩)
            dsimp only [Pt.U, Pt.locs, Pt.cells, Pt.slots] at X294 l294 y294 z294 st294 hQ294
            subst y294 z294
            replace X294 : Stand p l e _ s mt args below meth cd T294 L294 9 279 := X294
            obtain ⟨h294, e294⟩ : ∃ z, T294.heap = z := ⟨_, rfl⟩
            rw [e294] at hQ294
            obtain ⟨rfl, Nq294, K294, V294⟩ := hQ294
            have N294 : Fr n0 L294 := by rw [l294]; exact Fr.app N293 Nq294
            have Z296 : n0 ≤ h294.size := Nat.le_trans Z292 K294.1
            refine Win.st ?_ st294
            show Win p e below _ T294 (mkF mt 393 #[.val (.int chars), .val (.int sel), .val (.int lens), .val (.int o), .val (.int c), .val (.int f), .val (.int g), .val (.int l1), .val (.int l2), .val (.int v0), .val (.int v1), .val (.int v2), .val (.int v3), .val (.int v4), .val (.int v5), .val (.int v6), .val (.int v7), .val (.ref b187), .val (.ref b203), .val (.ref b220), .val (.int mm0), .val (.int mm1), .val (.ref b265), .val (.int mm0), .unset] [])
            refine Win.st ?_ (fun tq kq => XS.aload X294.here hx rfl (hb hby at_393) rfl rfl kq)
            show Win p e below _ T294 (mkF mt 395 #[.val (.int chars), .val (.int sel), .val (.int lens), .val (.int o), .val (.int c), .val (.int f), .val (.int g), .val (.int l1), .val (.int l2), .val (.int v0), .val (.int v1), .val (.int v2), .val (.int v3), .val (.int v4), .val (.int v5), .val (.int v6), .val (.int v7), .val (.ref b187), .val (.ref b203), .val (.ref b220), .val (.int mm0), .val (.int mm1), .val (.ref b265), .val (.int mm0), .unset] [(.ref b265)])
            refine Win.st ?_ (fun tq kq => XS.iload X294.here hx rfl (hb hby at_395) rfl kq)
            show Win p e below _ T294 (mkF mt 397 #[.val (.int chars), .val (.int sel), .val (.int lens), .val (.int o), .val (.int c), .val (.int f), .val (.int g), .val (.int l1), .val (.int l2), .val (.int v0), .val (.int v1), .val (.int v2), .val (.int v3), .val (.int v4), .val (.int v5), .val (.int v6), .val (.int v7), .val (.ref b187), .val (.ref b203), .val (.ref b220), .val (.int mm0), .val (.int mm1), .val (.ref b265), .val (.int mm0), .unset] [(.int v5), (.ref b265)])
            refine Win.st ?_ (fun tq kq => XS.iload X294.here hx rfl (hb hby at_397) rfl kq)
            show Win p e below _ T294 (mkF mt 399 #[.val (.int chars), .val (.int sel), .val (.int lens), .val (.int o), .val (.int c), .val (.int f), .val (.int g), .val (.int l1), .val (.int l2), .val (.int v0), .val (.int v1), .val (.int v2), .val (.int v3), .val (.int v4), .val (.int v5), .val (.int v6), .val (.int v7), .val (.ref b187), .val (.ref b203), .val (.ref b220), .val (.int mm0), .val (.int mm1), .val (.ref b265), .val (.int mm0), .unset] [(.int l2), (.int v5), (.ref b265)])
            refine Win.st ?_ (fun tq kq => XS.iconst X294.here hx rfl (hb hby at_399) kq)
            show Win p e below _ T294 (mkF mt 400 #[.val (.int chars), .val (.int sel), .val (.int lens), .val (.int o), .val (.int c), .val (.int f), .val (.int g), .val (.int l1), .val (.int l2), .val (.int v0), .val (.int v1), .val (.int v2), .val (.int v3), .val (.int v4), .val (.int v5), .val (.int v6), .val (.int v7), .val (.ref b187), .val (.ref b203), .val (.ref b220), .val (.int mm0), .val (.int mm1), .val (.ref b265), .val (.int mm0), .unset] [(.int (1 : Int32)), (.int l2), (.int v5), (.ref b265)])
            have jo5 : ∀ (T297 : State) (L297 : List Loc) (on5 : Int32), Stand p l e room_1 s mt args below meth cd T297 L297 9 279 → T297.heap = h294 → Fr n0 L297 → (on5 = if (1 : Int32) < l2 then (1 : Int32) else 0) → Win p e below (Ends s (Q_law Z chars sel lens cs u h0 n0) 9 279) T297 (mkF mt 408 #[.val (.int chars), .val (.int sel), .val (.int lens), .val (.int o), .val (.int c), .val (.int f), .val (.int g), .val (.int l1), .val (.int l2), .val (.int v0), .val (.int v1), .val (.int v2), .val (.int v3), .val (.int v4), .val (.int v5), .val (.int v6), .val (.int v7), .val (.ref b187), .val (.ref b203), .val (.ref b220), .val (.int mm0), .val (.int mm1), .val (.ref b265), .val (.int mm0), .unset] [(.int on5), (.int v5), (.ref b265)]) := by
              intro T297 L297 on5 X297 e297 N297 hon5
              refine Win.st ?_ (fun tq kq => XS.iloadN X297.here hx rfl (hb hby at_408) rfl kq)
              show Win p e below _ T297 (mkF mt 409 #[.val (.int chars), .val (.int sel), .val (.int lens), .val (.int o), .val (.int c), .val (.int f), .val (.int g), .val (.int l1), .val (.int l2), .val (.int v0), .val (.int v1), .val (.int v2), .val (.int v3), .val (.int v4), .val (.int v5), .val (.int v6), .val (.int v7), .val (.ref b187), .val (.ref b203), .val (.ref b220), .val (.int mm0), .val (.int mm1), .val (.ref b265), .val (.int mm0), .unset] [(.int o), (.int on5), (.int v5), (.ref b265)])
              refine Win.st ?_ (fun tq kq => XS.iload X297.here hx rfl (hb hby at_409) rfl kq)
              show Win p e below _ T297 (mkF mt 411 #[.val (.int chars), .val (.int sel), .val (.int lens), .val (.int o), .val (.int c), .val (.int f), .val (.int g), .val (.int l1), .val (.int l2), .val (.int v0), .val (.int v1), .val (.int v2), .val (.int v3), .val (.int v4), .val (.int v5), .val (.int v6), .val (.int v7), .val (.ref b187), .val (.ref b203), .val (.ref b220), .val (.int mm0), .val (.int mm1), .val (.ref b265), .val (.int mm0), .unset] [(.int c), (.int o), (.int on5), (.int v5), (.ref b265)])
              obtain ⟨v298, _, ⟨T298, L298, k298, n298⟩, -, X298, ⟨Lc298, hQ298, l298, y298, z298⟩, st298⟩ := Jvm.LawKit.callS X297 hx (y := (⟨"com/example/modest_tableau/modesttableau/document/BracketDepthAddPinLaw", "feed", "([IIZII)V"⟩ : MethodName)) hown (mvT hZ (hw _ (List.mem_of_getElem? (i := 97) rfl))) (mvT hZ (hw _ (List.mem_of_getElem? (i := 98) rfl))) (mvT hZ (hw _ (List.mem_of_getElem? (i := 3) rfl))) (mvT hZ (hw _ (List.mem_of_getElem? (i := 99) rfl))) (by decide) (backOf (W := 0) (rm_feed l Z a0 hw [] b265 v5 on5 o c l2 (1 : Int32) (own_fd l2 (0 : Int32) dd0 (own_s o c v4)) (own_fm l2 (0 : Int32) dd0 mm0 (own_s o c v4)) k265 h294 n0 Z296 V294 g274 hon5) hZ (hw _ (List.mem_of_getElem? (i := 99) rfl)) (hw _ (List.mem_of_getElem? (i := 3) rfl)) (by decide) (by decide)) (g := (mkF mt 411 #[.val (.int chars), .val (.int sel), .val (.int lens), .val (.int o), .val (.int c), .val (.int f), .val (.int g), .val (.int l1), .val (.int l2), .val (.int v0), .val (.int v1), .val (.int v2), .val (.int v3), .val (.int v4), .val (.int v5), .val (.int v6), .val (.int v7), .val (.ref b187), .val (.ref b203), .val (.ref b220), .val (.int mm0), .val (.int mm1), .val (.ref b265), .val (.int mm0), .unset] [(.int c), (.int o), (.int on5), (.int v5), (.ref b265)])) rfl (by rw [hml]; rfl) (argsL := [(.ref b265), (.int v5), (.int on5), (.int o), (.int c)]) (rest := []) (lenOf pd_17 rfl) rfl (by show 2 * 0 + _ ≤ _; exact Nat.le_of_eq rfl) (hb hby at_411) (fun _ _ => ⟨rfl, e297, (by decide : 9 + 0 ≤ _), (by decide : 279 + 0 ≤ _)⟩)
              dsimp only [Pt.U, Pt.locs, Pt.cells, Pt.slots] at X298 l298 y298 z298 st298 hQ298
              subst y298 z298
              replace X298 : Stand p l e _ s mt args below meth cd T298 L298 9 279 := X298
              obtain ⟨h298, e298⟩ : ∃ z, T298.heap = z := ⟨_, rfl⟩
              rw [e298] at hQ298
              obtain ⟨rfl, Nq298, K298, V298⟩ := hQ298
              have N298 : Fr n0 L298 := by rw [l298]; exact Fr.app N297 Nq298
              have Z300 : n0 ≤ h298.size := Nat.le_trans Z296 K298.1
              refine Win.st ?_ st298
              show Win p e below _ T298 (mkF mt 414 #[.val (.int chars), .val (.int sel), .val (.int lens), .val (.int o), .val (.int c), .val (.int f), .val (.int g), .val (.int l1), .val (.int l2), .val (.int v0), .val (.int v1), .val (.int v2), .val (.int v3), .val (.int v4), .val (.int v5), .val (.int v6), .val (.int v7), .val (.ref b187), .val (.ref b203), .val (.ref b220), .val (.int mm0), .val (.int mm1), .val (.ref b265), .val (.int mm0), .unset] [])
              refine Win.st ?_ (fun tq kq => XS.aload X298.here hx rfl (hb hby at_414) rfl rfl kq)
              show Win p e below _ T298 (mkF mt 416 #[.val (.int chars), .val (.int sel), .val (.int lens), .val (.int o), .val (.int c), .val (.int f), .val (.int g), .val (.int l1), .val (.int l2), .val (.int v0), .val (.int v1), .val (.int v2), .val (.int v3), .val (.int v4), .val (.int v5), .val (.int v6), .val (.int v7), .val (.ref b187), .val (.ref b203), .val (.ref b220), .val (.int mm0), .val (.int mm1), .val (.ref b265), .val (.int mm0), .unset] [(.ref b265)])
              refine Win.st ?_ (fun tq kq => XS.iload X298.here hx rfl (hb hby at_416) rfl kq)
              show Win p e below _ T298 (mkF mt 418 #[.val (.int chars), .val (.int sel), .val (.int lens), .val (.int o), .val (.int c), .val (.int f), .val (.int g), .val (.int l1), .val (.int l2), .val (.int v0), .val (.int v1), .val (.int v2), .val (.int v3), .val (.int v4), .val (.int v5), .val (.int v6), .val (.int v7), .val (.ref b187), .val (.ref b203), .val (.ref b220), .val (.int mm0), .val (.int mm1), .val (.ref b265), .val (.int mm0), .unset] [(.int v6), (.ref b265)])
              refine Win.st ?_ (fun tq kq => XS.iload X298.here hx rfl (hb hby at_418) rfl kq)
              show Win p e below _ T298 (mkF mt 420 #[.val (.int chars), .val (.int sel), .val (.int lens), .val (.int o), .val (.int c), .val (.int f), .val (.int g), .val (.int l1), .val (.int l2), .val (.int v0), .val (.int v1), .val (.int v2), .val (.int v3), .val (.int v4), .val (.int v5), .val (.int v6), .val (.int v7), .val (.ref b187), .val (.ref b203), .val (.ref b220), .val (.int mm0), .val (.int mm1), .val (.ref b265), .val (.int mm0), .unset] [(.int l2), (.int v6), (.ref b265)])
              refine Win.st ?_ (fun tq kq => XS.iconst X298.here hx rfl (hb hby at_420) kq)
              show Win p e below _ T298 (mkF mt 421 #[.val (.int chars), .val (.int sel), .val (.int lens), .val (.int o), .val (.int c), .val (.int f), .val (.int g), .val (.int l1), .val (.int l2), .val (.int v0), .val (.int v1), .val (.int v2), .val (.int v3), .val (.int v4), .val (.int v5), .val (.int v6), .val (.int v7), .val (.ref b187), .val (.ref b203), .val (.ref b220), .val (.int mm0), .val (.int mm1), .val (.ref b265), .val (.int mm0), .unset] [(.int (2 : Int32)), (.int l2), (.int v6), (.ref b265)])
              have jo6 : ∀ (T301 : State) (L301 : List Loc) (on6 : Int32), Stand p l e room_1 s mt args below meth cd T301 L301 9 279 → T301.heap = h298 → Fr n0 L301 → (on6 = if (2 : Int32) < l2 then (1 : Int32) else 0) → Win p e below (Ends s (Q_law Z chars sel lens cs u h0 n0) 9 279) T301 (mkF mt 429 #[.val (.int chars), .val (.int sel), .val (.int lens), .val (.int o), .val (.int c), .val (.int f), .val (.int g), .val (.int l1), .val (.int l2), .val (.int v0), .val (.int v1), .val (.int v2), .val (.int v3), .val (.int v4), .val (.int v5), .val (.int v6), .val (.int v7), .val (.ref b187), .val (.ref b203), .val (.ref b220), .val (.int mm0), .val (.int mm1), .val (.ref b265), .val (.int mm0), .unset] [(.int on6), (.int v6), (.ref b265)]) := by
                intro T301 L301 on6 X301 e301 N301 hon6
                refine Win.st ?_ (fun tq kq => XS.iloadN X301.here hx rfl (hb hby at_429) rfl kq)
                show Win p e below _ T301 (mkF mt 430 #[.val (.int chars), .val (.int sel), .val (.int lens), .val (.int o), .val (.int c), .val (.int f), .val (.int g), .val (.int l1), .val (.int l2), .val (.int v0), .val (.int v1), .val (.int v2), .val (.int v3), .val (.int v4), .val (.int v5), .val (.int v6), .val (.int v7), .val (.ref b187), .val (.ref b203), .val (.ref b220), .val (.int mm0), .val (.int mm1), .val (.ref b265), .val (.int mm0), .unset] [(.int o), (.int on6), (.int v6), (.ref b265)])
                refine Win.st ?_ (fun tq kq => XS.iload X301.here hx rfl (hb hby at_430) rfl kq)
                show Win p e below _ T301 (mkF mt 432 #[.val (.int chars), .val (.int sel), .val (.int lens), .val (.int o), .val (.int c), .val (.int f), .val (.int g), .val (.int l1), .val (.int l2), .val (.int v0), .val (.int v1), .val (.int v2), .val (.int v3), .val (.int v4), .val (.int v5), .val (.int v6), .val (.int v7), .val (.ref b187), .val (.ref b203), .val (.ref b220), .val (.int mm0), .val (.int mm1), .val (.ref b265), .val (.int mm0), .unset] [(.int c), (.int o), (.int on6), (.int v6), (.ref b265)])
                obtain ⟨v302, _, ⟨T302, L302, k302, n302⟩, -, X302, ⟨Lc302, hQ302, l302, y302, z302⟩, st302⟩ := Jvm.LawKit.callS X301 hx (y := (⟨"com/example/modest_tableau/modesttableau/document/BracketDepthAddPinLaw", "feed", "([IIZII)V"⟩ : MethodName)) hown (mvT hZ (hw _ (List.mem_of_getElem? (i := 97) rfl))) (mvT hZ (hw _ (List.mem_of_getElem? (i := 98) rfl))) (mvT hZ (hw _ (List.mem_of_getElem? (i := 3) rfl))) (mvT hZ (hw _ (List.mem_of_getElem? (i := 99) rfl))) (by decide) (backOf (W := 0) (rm_feed l Z a0 hw [] b265 v6 on6 o c l2 (2 : Int32) (own_fd l2 (1 : Int32) (own_fd l2 (0 : Int32) dd0 (own_s o c v4)) (own_s o c v5)) (own_fm l2 (1 : Int32) (own_fd l2 (0 : Int32) dd0 (own_s o c v4)) (own_fm l2 (0 : Int32) dd0 mm0 (own_s o c v4)) (own_s o c v5)) k265 h298 n0 Z300 V298 g274 hon6) hZ (hw _ (List.mem_of_getElem? (i := 99) rfl)) (hw _ (List.mem_of_getElem? (i := 3) rfl)) (by decide) (by decide)) (g := (mkF mt 432 #[.val (.int chars), .val (.int sel), .val (.int lens), .val (.int o), .val (.int c), .val (.int f), .val (.int g), .val (.int l1), .val (.int l2), .val (.int v0), .val (.int v1), .val (.int v2), .val (.int v3), .val (.int v4), .val (.int v5), .val (.int v6), .val (.int v7), .val (.ref b187), .val (.ref b203), .val (.ref b220), .val (.int mm0), .val (.int mm1), .val (.ref b265), .val (.int mm0), .unset] [(.int c), (.int o), (.int on6), (.int v6), (.ref b265)])) rfl (by rw [hml]; rfl) (argsL := [(.ref b265), (.int v6), (.int on6), (.int o), (.int c)]) (rest := []) (lenOf pd_17 rfl) rfl (by show 2 * 0 + _ ≤ _; exact Nat.le_of_eq rfl) (hb hby at_432) (fun _ _ => ⟨rfl, e301, (by decide : 9 + 0 ≤ _), (by decide : 279 + 0 ≤ _)⟩)
                dsimp only [Pt.U, Pt.locs, Pt.cells, Pt.slots] at X302 l302 y302 z302 st302 hQ302
                subst y302 z302
                replace X302 : Stand p l e _ s mt args below meth cd T302 L302 9 279 := X302
                obtain ⟨h302, e302⟩ : ∃ z, T302.heap = z := ⟨_, rfl⟩
                rw [e302] at hQ302
                obtain ⟨rfl, Nq302, K302, V302⟩ := hQ302
                have N302 : Fr n0 L302 := by rw [l302]; exact Fr.app N301 Nq302
                have Z304 : n0 ≤ h302.size := Nat.le_trans Z300 K302.1
                refine Win.st ?_ st302
                show Win p e below _ T302 (mkF mt 435 #[.val (.int chars), .val (.int sel), .val (.int lens), .val (.int o), .val (.int c), .val (.int f), .val (.int g), .val (.int l1), .val (.int l2), .val (.int v0), .val (.int v1), .val (.int v2), .val (.int v3), .val (.int v4), .val (.int v5), .val (.int v6), .val (.int v7), .val (.ref b187), .val (.ref b203), .val (.ref b220), .val (.int mm0), .val (.int mm1), .val (.ref b265), .val (.int mm0), .unset] [])
                refine Win.st ?_ (fun tq kq => XS.aload X302.here hx rfl (hb hby at_435) rfl rfl kq)
                show Win p e below _ T302 (mkF mt 437 #[.val (.int chars), .val (.int sel), .val (.int lens), .val (.int o), .val (.int c), .val (.int f), .val (.int g), .val (.int l1), .val (.int l2), .val (.int v0), .val (.int v1), .val (.int v2), .val (.int v3), .val (.int v4), .val (.int v5), .val (.int v6), .val (.int v7), .val (.ref b187), .val (.ref b203), .val (.ref b220), .val (.int mm0), .val (.int mm1), .val (.ref b265), .val (.int mm0), .unset] [(.ref b265)])
                refine Win.st ?_ (fun tq kq => XS.iload X302.here hx rfl (hb hby at_437) rfl kq)
                show Win p e below _ T302 (mkF mt 439 #[.val (.int chars), .val (.int sel), .val (.int lens), .val (.int o), .val (.int c), .val (.int f), .val (.int g), .val (.int l1), .val (.int l2), .val (.int v0), .val (.int v1), .val (.int v2), .val (.int v3), .val (.int v4), .val (.int v5), .val (.int v6), .val (.int v7), .val (.ref b187), .val (.ref b203), .val (.ref b220), .val (.int mm0), .val (.int mm1), .val (.ref b265), .val (.int mm0), .unset] [(.int v7), (.ref b265)])
                refine Win.st ?_ (fun tq kq => XS.iload X302.here hx rfl (hb hby at_439) rfl kq)
                show Win p e below _ T302 (mkF mt 441 #[.val (.int chars), .val (.int sel), .val (.int lens), .val (.int o), .val (.int c), .val (.int f), .val (.int g), .val (.int l1), .val (.int l2), .val (.int v0), .val (.int v1), .val (.int v2), .val (.int v3), .val (.int v4), .val (.int v5), .val (.int v6), .val (.int v7), .val (.ref b187), .val (.ref b203), .val (.ref b220), .val (.int mm0), .val (.int mm1), .val (.ref b265), .val (.int mm0), .unset] [(.int l2), (.int v7), (.ref b265)])
                refine Win.st ?_ (fun tq kq => XS.iconst X302.here hx rfl (hb hby at_441) kq)
                show Win p e below _ T302 (mkF mt 442 #[.val (.int chars), .val (.int sel), .val (.int lens), .val (.int o), .val (.int c), .val (.int f), .val (.int g), .val (.int l1), .val (.int l2), .val (.int v0), .val (.int v1), .val (.int v2), .val (.int v3), .val (.int v4), .val (.int v5), .val (.int v6), .val (.int v7), .val (.ref b187), .val (.ref b203), .val (.ref b220), .val (.int mm0), .val (.int mm1), .val (.ref b265), .val (.int mm0), .unset] [(.int (3 : Int32)), (.int l2), (.int v7), (.ref b265)])
                have jo7 : ∀ (T305 : State) (L305 : List Loc) (on7 : Int32), Stand p l e room_1 s mt args below meth cd T305 L305 9 279 → T305.heap = h302 → Fr n0 L305 → (on7 = if (3 : Int32) < l2 then (1 : Int32) else 0) → Win p e below (Ends s (Q_law Z chars sel lens cs u h0 n0) 9 279) T305 (mkF mt 450 #[.val (.int chars), .val (.int sel), .val (.int lens), .val (.int o), .val (.int c), .val (.int f), .val (.int g), .val (.int l1), .val (.int l2), .val (.int v0), .val (.int v1), .val (.int v2), .val (.int v3), .val (.int v4), .val (.int v5), .val (.int v6), .val (.int v7), .val (.ref b187), .val (.ref b203), .val (.ref b220), .val (.int mm0), .val (.int mm1), .val (.ref b265), .val (.int mm0), .unset] [(.int on7), (.int v7), (.ref b265)]) := by
                  intro T305 L305 on7 X305 e305 N305 hon7
                  refine Win.st ?_ (fun tq kq => XS.iloadN X305.here hx rfl (hb hby at_450) rfl kq)
                  show Win p e below _ T305 (mkF mt 451 #[.val (.int chars), .val (.int sel), .val (.int lens), .val (.int o), .val (.int c), .val (.int f), .val (.int g), .val (.int l1), .val (.int l2), .val (.int v0), .val (.int v1), .val (.int v2), .val (.int v3), .val (.int v4), .val (.int v5), .val (.int v6), .val (.int v7), .val (.ref b187), .val (.ref b203), .val (.ref b220), .val (.int mm0), .val (.int mm1), .val (.ref b265), .val (.int mm0), .unset] [(.int o), (.int on7), (.int v7), (.ref b265)])
                  refine Win.st ?_ (fun tq kq => XS.iload X305.here hx rfl (hb hby at_451) rfl kq)
                  show Win p e below _ T305 (mkF mt 453 #[.val (.int chars), .val (.int sel), .val (.int lens), .val (.int o), .val (.int c), .val (.int f), .val (.int g), .val (.int l1), .val (.int l2), .val (.int v0), .val (.int v1), .val (.int v2), .val (.int v3), .val (.int v4), .val (.int v5), .val (.int v6), .val (.int v7), .val (.ref b187), .val (.ref b203), .val (.ref b220), .val (.int mm0), .val (.int mm1), .val (.ref b265), .val (.int mm0), .unset] [(.int c), (.int o), (.int on7), (.int v7), (.ref b265)])
                  obtain ⟨v306, _, ⟨T306, L306, k306, n306⟩, -, X306, ⟨Lc306, hQ306, l306, y306, z306⟩, st306⟩ := Jvm.LawKit.callS X305 hx (y := (⟨"com/example/modest_tableau/modesttableau/document/BracketDepthAddPinLaw", "feed", "([IIZII)V"⟩ : MethodName)) hown (mvT hZ (hw _ (List.mem_of_getElem? (i := 97) rfl))) (mvT hZ (hw _ (List.mem_of_getElem? (i := 98) rfl))) (mvT hZ (hw _ (List.mem_of_getElem? (i := 3) rfl))) (mvT hZ (hw _ (List.mem_of_getElem? (i := 99) rfl))) (by decide) (backOf (W := 0) (rm_feed l Z a0 hw [] b265 v7 on7 o c l2 (3 : Int32) (own_fd l2 (2 : Int32) (own_fd l2 (1 : Int32) (own_fd l2 (0 : Int32) dd0 (own_s o c v4)) (own_s o c v5)) (own_s o c v6)) (own_fm l2 (2 : Int32) (own_fd l2 (1 : Int32) (own_fd l2 (0 : Int32) dd0 (own_s o c v4)) (own_s o c v5)) (own_fm l2 (1 : Int32) (own_fd l2 (0 : Int32) dd0 (own_s o c v4)) (own_fm l2 (0 : Int32) dd0 mm0 (own_s o c v4)) (own_s o c v5)) (own_s o c v6)) k265 h302 n0 Z304 V302 g274 hon7) hZ (hw _ (List.mem_of_getElem? (i := 99) rfl)) (hw _ (List.mem_of_getElem? (i := 3) rfl)) (by decide) (by decide)) (g := (mkF mt 453 #[.val (.int chars), .val (.int sel), .val (.int lens), .val (.int o), .val (.int c), .val (.int f), .val (.int g), .val (.int l1), .val (.int l2), .val (.int v0), .val (.int v1), .val (.int v2), .val (.int v3), .val (.int v4), .val (.int v5), .val (.int v6), .val (.int v7), .val (.ref b187), .val (.ref b203), .val (.ref b220), .val (.int mm0), .val (.int mm1), .val (.ref b265), .val (.int mm0), .unset] [(.int c), (.int o), (.int on7), (.int v7), (.ref b265)])) rfl (by rw [hml]; rfl) (argsL := [(.ref b265), (.int v7), (.int on7), (.int o), (.int c)]) (rest := []) (lenOf pd_17 rfl) rfl (by show 2 * 0 + _ ≤ _; exact Nat.le_of_eq rfl) (hb hby at_453) (fun _ _ => ⟨rfl, e305, (by decide : 9 + 0 ≤ _), (by decide : 279 + 0 ≤ _)⟩)
                  dsimp only [Pt.U, Pt.locs, Pt.cells, Pt.slots] at X306 l306 y306 z306 st306 hQ306
                  subst y306 z306
                  replace X306 : Stand p l e _ s mt args below meth cd T306 L306 9 279 := X306
                  obtain ⟨h306, e306⟩ : ∃ z, T306.heap = z := ⟨_, rfl⟩
                  rw [e306] at hQ306
                  obtain ⟨rfl, Nq306, K306, V306⟩ := hQ306
                  have N306 : Fr n0 L306 := by rw [l306]; exact Fr.app N305 Nq306
                  have Z308 : n0 ≤ h306.size := Nat.le_trans Z304 K306.1
                  rw [← hdd1, ← hmm1] at V306
                  refine Win.st ?_ st306
                  show Win p e below _ T306 (mkF mt 456 #[.val (.int chars), .val (.int sel), .val (.int lens), .val (.int o), .val (.int c), .val (.int f), .val (.int g), .val (.int l1), .val (.int l2), .val (.int v0), .val (.int v1), .val (.int v2), .val (.int v3), .val (.int v4), .val (.int v5), .val (.int v6), .val (.int v7), .val (.ref b187), .val (.ref b203), .val (.ref b220), .val (.int mm0), .val (.int mm1), .val (.ref b265), .val (.int mm0), .unset] [])
                  refine Win.st ?_ (fun tq kq => XS.aload X306.here hx rfl (hb hby at_456) rfl rfl kq)
                  show Win p e below _ T306 (mkF mt 458 #[.val (.int chars), .val (.int sel), .val (.int lens), .val (.int o), .val (.int c), .val (.int f), .val (.int g), .val (.int l1), .val (.int l2), .val (.int v0), .val (.int v1), .val (.int v2), .val (.int v3), .val (.int v4), .val (.int v5), .val (.int v6), .val (.int v7), .val (.ref b187), .val (.ref b203), .val (.ref b220), .val (.int mm0), .val (.int mm1), .val (.ref b265), .val (.int mm0), .unset] [(.ref b265)])
                  refine Win.st ?_ (fun tq kq => XS.iconst X306.here hx rfl (hb hby at_458) kq)
                  show Win p e below _ T306 (mkF mt 459 #[.val (.int chars), .val (.int sel), .val (.int lens), .val (.int o), .val (.int c), .val (.int f), .val (.int g), .val (.int l1), .val (.int l2), .val (.int v0), .val (.int v1), .val (.int v2), .val (.int v3), .val (.int v4), .val (.int v5), .val (.int v6), .val (.int v7), .val (.ref b187), .val (.ref b203), .val (.ref b220), .val (.int mm0), .val (.int mm1), .val (.ref b265), .val (.int mm0), .unset] [(.int (1 : Int32)), (.ref b265)])
                  refine Win.st ?_ (own_iald (g := (mkF mt 459 #[.val (.int chars), .val (.int sel), .val (.int lens), .val (.int o), .val (.int c), .val (.int f), .val (.int g), .val (.int l1), .val (.int l2), .val (.int v0), .val (.int v1), .val (.int v2), .val (.int v3), .val (.int v4), .val (.int v5), .val (.int v6), .val (.int v7), .val (.ref b187), .val (.ref b203), .val (.ref b220), .val (.int mm0), .val (.int mm1), .val (.ref b265), .val (.int mm0), .unset] [(.int (1 : Int32)), (.ref b265)])) X306 hx hZ e306 V306 (j := (1 : Int32)) (v := (.int mm1)) (by decide) (by decide) rfl rfl rfl (hb hby at_459))
                  show Win p e below _ T306 (mkF mt 460 #[.val (.int chars), .val (.int sel), .val (.int lens), .val (.int o), .val (.int c), .val (.int f), .val (.int g), .val (.int l1), .val (.int l2), .val (.int v0), .val (.int v1), .val (.int v2), .val (.int v3), .val (.int v4), .val (.int v5), .val (.int v6), .val (.int v7), .val (.ref b187), .val (.ref b203), .val (.ref b220), .val (.int mm0), .val (.int mm1), .val (.ref b265), .val (.int mm0), .unset] [(.int mm1)])
                  refine Win.st ?_ (fun tq kq => XS.istore X306.here hx rfl (hb hby at_460) rfl (l' := #[.val (.int chars), .val (.int sel), .val (.int lens), .val (.int o), .val (.int c), .val (.int f), .val (.int g), .val (.int l1), .val (.int l2), .val (.int v0), .val (.int v1), .val (.int v2), .val (.int v3), .val (.int v4), .val (.int v5), .val (.int v6), .val (.int v7), .val (.ref b187), .val (.ref b203), .val (.ref b220), .val (.int mm0), .val (.int mm1), .val (.ref b265), .val (.int mm0), .val (.int mm1)]) rfl kq)
                  show Win p e below _ T306 (mkF mt 462 #[.val (.int chars), .val (.int sel), .val (.int lens), .val (.int o), .val (.int c), .val (.int f), .val (.int g), .val (.int l1), .val (.int l2), .val (.int v0), .val (.int v1), .val (.int v2), .val (.int v3), .val (.int v4), .val (.int v5), .val (.int v6), .val (.int v7), .val (.ref b187), .val (.ref b203), .val (.ref b220), .val (.int mm0), .val (.int mm1), .val (.ref b265), .val (.int mm0), .val (.int mm1)] [])
                  refine Win.st ?_ (fun tq kq => XS.iload X306.here hx rfl (hb hby at_462) rfl kq)
                  show Win p e below _ T306 (mkF mt 464 #[.val (.int chars), .val (.int sel), .val (.int lens), .val (.int o), .val (.int c), .val (.int f), .val (.int g), .val (.int l1), .val (.int l2), .val (.int v0), .val (.int v1), .val (.int v2), .val (.int v3), .val (.int v4), .val (.int v5), .val (.int v6), .val (.int v7), .val (.ref b187), .val (.ref b203), .val (.ref b220), .val (.int mm0), .val (.int mm1), .val (.ref b265), .val (.int mm0), .val (.int mm1)] [(.int mm0)])
                  refine Win.st ?_ (fun tq kq => XS.iload X306.here hx rfl (hb hby at_464) rfl kq)
                  show Win p e below _ T306 (mkF mt 466 #[.val (.int chars), .val (.int sel), .val (.int lens), .val (.int o), .val (.int c), .val (.int f), .val (.int g), .val (.int l1), .val (.int l2), .val (.int v0), .val (.int v1), .val (.int v2), .val (.int v3), .val (.int v4), .val (.int v5), .val (.int v6), .val (.int v7), .val (.ref b187), .val (.ref b203), .val (.ref b220), .val (.int mm0), .val (.int mm1), .val (.ref b265), .val (.int mm0), .val (.int mm1)] [(.int mm0), (.int mm0)])
                  refine Win.st ?_ (fun tq kq => XS.icmpNo X306.here hx rfl (hb hby at_466) rfl (teq (rfl : mm0 = mm0)).2 kq)
                  show Win p e below _ T306 (mkF mt 469 #[.val (.int chars), .val (.int sel), .val (.int lens), .val (.int o), .val (.int c), .val (.int f), .val (.int g), .val (.int l1), .val (.int l2), .val (.int v0), .val (.int v1), .val (.int v2), .val (.int v3), .val (.int v4), .val (.int v5), .val (.int v6), .val (.int v7), .val (.ref b187), .val (.ref b203), .val (.ref b220), .val (.int mm0), .val (.int mm1), .val (.ref b265), .val (.int mm0), .val (.int mm1)] [])
                  refine Win.st ?_ (fun tq kq => XS.iload X306.here hx rfl (hb hby at_469) rfl kq)
                  show Win p e below _ T306 (mkF mt 471 #[.val (.int chars), .val (.int sel), .val (.int lens), .val (.int o), .val (.int c), .val (.int f), .val (.int g), .val (.int l1), .val (.int l2), .val (.int v0), .val (.int v1), .val (.int v2), .val (.int v3), .val (.int v4), .val (.int v5), .val (.int v6), .val (.int v7), .val (.ref b187), .val (.ref b203), .val (.ref b220), .val (.int mm0), .val (.int mm1), .val (.ref b265), .val (.int mm0), .val (.int mm1)] [(.int mm1)])
                  refine Win.st ?_ (fun tq kq => XS.iload X306.here hx rfl (hb hby at_471) rfl kq)
                  show Win p e below _ T306 (mkF mt 473 #[.val (.int chars), .val (.int sel), .val (.int lens), .val (.int o), .val (.int c), .val (.int f), .val (.int g), .val (.int l1), .val (.int l2), .val (.int v0), .val (.int v1), .val (.int v2), .val (.int v3), .val (.int v4), .val (.int v5), .val (.int v6), .val (.int v7), .val (.ref b187), .val (.ref b203), .val (.ref b220), .val (.int mm0), .val (.int mm1), .val (.ref b265), .val (.int mm0), .val (.int mm1)] [(.int mm1), (.int mm1)])
                  refine Win.st ?_ (fun tq kq => XS.icmpNo X306.here hx rfl (hb hby at_473) rfl (teq (rfl : mm1 = mm1)).2 kq)
                  show Win p e below _ T306 (mkF mt 476 #[.val (.int chars), .val (.int sel), .val (.int lens), .val (.int o), .val (.int c), .val (.int f), .val (.int g), .val (.int l1), .val (.int l2), .val (.int v0), .val (.int v1), .val (.int v2), .val (.int v3), .val (.int v4), .val (.int v5), .val (.int v6), .val (.int v7), .val (.ref b187), .val (.ref b203), .val (.ref b220), .val (.int mm0), .val (.int mm1), .val (.ref b265), .val (.int mm0), .val (.int mm1)] [])
                  refine Win.st ?_ (fun tq kq => XS.iconst X306.here hx rfl (hb hby at_476) kq)
                  show Win p e below _ T306 (mkF mt 477 #[.val (.int chars), .val (.int sel), .val (.int lens), .val (.int o), .val (.int c), .val (.int f), .val (.int g), .val (.int l1), .val (.int l2), .val (.int v0), .val (.int v1), .val (.int v2), .val (.int v3), .val (.int v4), .val (.int v5), .val (.int v6), .val (.int v7), .val (.ref b187), .val (.ref b203), .val (.ref b220), .val (.int mm0), .val (.int mm1), .val (.ref b265), .val (.int mm0), .val (.int mm1)] [(.int (1 : Int32))])
                  refine Win.st ?_ (fun tq kq => XS.goto X306.here hx rfl (pc0 := 477) (pc' := 481) rfl (hb hby at_477) (by decide) (by decide) kq)
                  show Win p e below _ T306 (mkF mt 481 #[.val (.int chars), .val (.int sel), .val (.int lens), .val (.int o), .val (.int c), .val (.int f), .val (.int g), .val (.int l1), .val (.int l2), .val (.int v0), .val (.int v1), .val (.int v2), .val (.int v3), .val (.int v4), .val (.int v5), .val (.int v6), .val (.int v7), .val (.ref b187), .val (.ref b203), .val (.ref b220), .val (.int mm0), .val (.int mm1), .val (.ref b265), .val (.int mm0), .val (.int mm1)] [(.int (1 : Int32))])
                  exact Win.retN X306 hx hlk e306 (t := .boolean) (z' := (1 : Int32)) hrt (by simp) (hb hby at_481) (by decide) (by decide) rfl ⟨rfl, N306⟩
                by_cases hc442 : (3 : Int32) < l2
                · refine Win.st ?_ (fun tq kq => XS.icmpNo X302.here hx rfl (hb hby at_442) rfl (tlt hc442).2.2.2 kq)
                  show Win p e below _ T302 (mkF mt 445 #[.val (.int chars), .val (.int sel), .val (.int lens), .val (.int o), .val (.int c), .val (.int f), .val (.int g), .val (.int l1), .val (.int l2), .val (.int v0), .val (.int v1), .val (.int v2), .val (.int v3), .val (.int v4), .val (.int v5), .val (.int v6), .val (.int v7), .val (.ref b187), .val (.ref b203), .val (.ref b220), .val (.int mm0), .val (.int mm1), .val (.ref b265), .val (.int mm0), .unset] [(.int v7), (.ref b265)])
                  refine Win.st ?_ (fun tq kq => XS.iconst X302.here hx rfl (hb hby at_445) kq)
                  show Win p e below _ T302 (mkF mt 446 #[.val (.int chars), .val (.int sel), .val (.int lens), .val (.int o), .val (.int c), .val (.int f), .val (.int g), .val (.int l1), .val (.int l2), .val (.int v0), .val (.int v1), .val (.int v2), .val (.int v3), .val (.int v4), .val (.int v5), .val (.int v6), .val (.int v7), .val (.ref b187), .val (.ref b203), .val (.ref b220), .val (.int mm0), .val (.int mm1), .val (.ref b265), .val (.int mm0), .unset] [(.int (1 : Int32)), (.int v7), (.ref b265)])
                  refine Win.st ?_ (fun tq kq => XS.goto X302.here hx rfl (pc0 := 446) (pc' := 450) rfl (hb hby at_446) (by decide) (by decide) kq)
                  show Win p e below _ T302 (mkF mt 450 #[.val (.int chars), .val (.int sel), .val (.int lens), .val (.int o), .val (.int c), .val (.int f), .val (.int g), .val (.int l1), .val (.int l2), .val (.int v0), .val (.int v1), .val (.int v2), .val (.int v3), .val (.int v4), .val (.int v5), .val (.int v6), .val (.int v7), .val (.ref b187), .val (.ref b203), .val (.ref b220), .val (.int mm0), .val (.int mm1), .val (.ref b265), .val (.int mm0), .unset] [(.int (1 : Int32)), (.int v7), (.ref b265)])
                  exact jo7 T302 _ ((1 : Int32)) X302 e302 N302 ((if_pos hc442).symm)
                · refine Win.st ?_ (fun tq kq => XS.icmpYes X302.here hx rfl (pc0 := 442) (pc' := 449) rfl (hb hby at_442) rfl (flt hc442).2.2.2 (by decide) (by decide) kq)
                  show Win p e below _ T302 (mkF mt 449 #[.val (.int chars), .val (.int sel), .val (.int lens), .val (.int o), .val (.int c), .val (.int f), .val (.int g), .val (.int l1), .val (.int l2), .val (.int v0), .val (.int v1), .val (.int v2), .val (.int v3), .val (.int v4), .val (.int v5), .val (.int v6), .val (.int v7), .val (.ref b187), .val (.ref b203), .val (.ref b220), .val (.int mm0), .val (.int mm1), .val (.ref b265), .val (.int mm0), .unset] [(.int v7), (.ref b265)])
                  refine Win.st ?_ (fun tq kq => XS.iconst X302.here hx rfl (hb hby at_449) kq)
                  show Win p e below _ T302 (mkF mt 450 #[.val (.int chars), .val (.int sel), .val (.int lens), .val (.int o), .val (.int c), .val (.int f), .val (.int g), .val (.int l1), .val (.int l2), .val (.int v0), .val (.int v1), .val (.int v2), .val (.int v3), .val (.int v4), .val (.int v5), .val (.int v6), .val (.int v7), .val (.ref b187), .val (.ref b203), .val (.ref b220), .val (.int mm0), .val (.int mm1), .val (.ref b265), .val (.int mm0), .unset] [(.int (0 : Int32)), (.int v7), (.ref b265)])
                  exact jo7 T302 _ ((0 : Int32)) X302 e302 N302 ((if_neg hc442).symm)
              by_cases hc421 : (2 : Int32) < l2
              · refine Win.st ?_ (fun tq kq => XS.icmpNo X298.here hx rfl (hb hby at_421) rfl (tlt hc421).2.2.2 kq)
                show Win p e below _ T298 (mkF mt 424 #[.val (.int chars), .val (.int sel), .val (.int lens), .val (.int o), .val (.int c), .val (.int f), .val (.int g), .val (.int l1), .val (.int l2), .val (.int v0), .val (.int v1), .val (.int v2), .val (.int v3), .val (.int v4), .val (.int v5), .val (.int v6), .val (.int v7), .val (.ref b187), .val (.ref b203), .val (.ref b220), .val (.int mm0), .val (.int mm1), .val (.ref b265), .val (.int mm0), .unset] [(.int v6), (.ref b265)])
                refine Win.st ?_ (fun tq kq => XS.iconst X298.here hx rfl (hb hby at_424) kq)
                show Win p e below _ T298 (mkF mt 425 #[.val (.int chars), .val (.int sel), .val (.int lens), .val (.int o), .val (.int c), .val (.int f), .val (.int g), .val (.int l1), .val (.int l2), .val (.int v0), .val (.int v1), .val (.int v2), .val (.int v3), .val (.int v4), .val (.int v5), .val (.int v6), .val (.int v7), .val (.ref b187), .val (.ref b203), .val (.ref b220), .val (.int mm0), .val (.int mm1), .val (.ref b265), .val (.int mm0), .unset] [(.int (1 : Int32)), (.int v6), (.ref b265)])
                refine Win.st ?_ (fun tq kq => XS.goto X298.here hx rfl (pc0 := 425) (pc' := 429) rfl (hb hby at_425) (by decide) (by decide) kq)
                show Win p e below _ T298 (mkF mt 429 #[.val (.int chars), .val (.int sel), .val (.int lens), .val (.int o), .val (.int c), .val (.int f), .val (.int g), .val (.int l1), .val (.int l2), .val (.int v0), .val (.int v1), .val (.int v2), .val (.int v3), .val (.int v4), .val (.int v5), .val (.int v6), .val (.int v7), .val (.ref b187), .val (.ref b203), .val (.ref b220), .val (.int mm0), .val (.int mm1), .val (.ref b265), .val (.int mm0), .unset] [(.int (1 : Int32)), (.int v6), (.ref b265)])
                exact jo6 T298 _ ((1 : Int32)) X298 e298 N298 ((if_pos hc421).symm)
              · refine Win.st ?_ (fun tq kq => XS.icmpYes X298.here hx rfl (pc0 := 421) (pc' := 428) rfl (hb hby at_421) rfl (flt hc421).2.2.2 (by decide) (by decide) kq)
                show Win p e below _ T298 (mkF mt 428 #[.val (.int chars), .val (.int sel), .val (.int lens), .val (.int o), .val (.int c), .val (.int f), .val (.int g), .val (.int l1), .val (.int l2), .val (.int v0), .val (.int v1), .val (.int v2), .val (.int v3), .val (.int v4), .val (.int v5), .val (.int v6), .val (.int v7), .val (.ref b187), .val (.ref b203), .val (.ref b220), .val (.int mm0), .val (.int mm1), .val (.ref b265), .val (.int mm0), .unset] [(.int v6), (.ref b265)])
                refine Win.st ?_ (fun tq kq => XS.iconst X298.here hx rfl (hb hby at_428) kq)
                show Win p e below _ T298 (mkF mt 429 #[.val (.int chars), .val (.int sel), .val (.int lens), .val (.int o), .val (.int c), .val (.int f), .val (.int g), .val (.int l1), .val (.int l2), .val (.int v0), .val (.int v1), .val (.int v2), .val (.int v3), .val (.int v4), .val (.int v5), .val (.int v6), .val (.int v7), .val (.ref b187), .val (.ref b203), .val (.ref b220), .val (.int mm0), .val (.int mm1), .val (.ref b265), .val (.int mm0), .unset] [(.int (0 : Int32)), (.int v6), (.ref b265)])
                exact jo6 T298 _ ((0 : Int32)) X298 e298 N298 ((if_neg hc421).symm)
            by_cases hc400 : (1 : Int32) < l2
            · refine Win.st ?_ (fun tq kq => XS.icmpNo X294.here hx rfl (hb hby at_400) rfl (tlt hc400).2.2.2 kq)
              show Win p e below _ T294 (mkF mt 403 #[.val (.int chars), .val (.int sel), .val (.int lens), .val (.int o), .val (.int c), .val (.int f), .val (.int g), .val (.int l1), .val (.int l2), .val (.int v0), .val (.int v1), .val (.int v2), .val (.int v3), .val (.int v4), .val (.int v5), .val (.int v6), .val (.int v7), .val (.ref b187), .val (.ref b203), .val (.ref b220), .val (.int mm0), .val (.int mm1), .val (.ref b265), .val (.int mm0), .unset] [(.int v5), (.ref b265)])
              refine Win.st ?_ (fun tq kq => XS.iconst X294.here hx rfl (hb hby at_403) kq)
              show Win p e below _ T294 (mkF mt 404 #[.val (.int chars), .val (.int sel), .val (.int lens), .val (.int o), .val (.int c), .val (.int f), .val (.int g), .val (.int l1), .val (.int l2), .val (.int v0), .val (.int v1), .val (.int v2), .val (.int v3), .val (.int v4), .val (.int v5), .val (.int v6), .val (.int v7), .val (.ref b187), .val (.ref b203), .val (.ref b220), .val (.int mm0), .val (.int mm1), .val (.ref b265), .val (.int mm0), .unset] [(.int (1 : Int32)), (.int v5), (.ref b265)])
              refine Win.st ?_ (fun tq kq => XS.goto X294.here hx rfl (pc0 := 404) (pc' := 408) rfl (hb hby at_404) (by decide) (by decide) kq)
              show Win p e below _ T294 (mkF mt 408 #[.val (.int chars), .val (.int sel), .val (.int lens), .val (.int o), .val (.int c), .val (.int f), .val (.int g), .val (.int l1), .val (.int l2), .val (.int v0), .val (.int v1), .val (.int v2), .val (.int v3), .val (.int v4), .val (.int v5), .val (.int v6), .val (.int v7), .val (.ref b187), .val (.ref b203), .val (.ref b220), .val (.int mm0), .val (.int mm1), .val (.ref b265), .val (.int mm0), .unset] [(.int (1 : Int32)), (.int v5), (.ref b265)])
              exact jo5 T294 _ ((1 : Int32)) X294 e294 N294 ((if_pos hc400).symm)
            · refine Win.st ?_ (fun tq kq => XS.icmpYes X294.here hx rfl (pc0 := 400) (pc' := 407) rfl (hb hby at_400) rfl (flt hc400).2.2.2 (by decide) (by decide) kq)
              show Win p e below _ T294 (mkF mt 407 #[.val (.int chars), .val (.int sel), .val (.int lens), .val (.int o), .val (.int c), .val (.int f), .val (.int g), .val (.int l1), .val (.int l2), .val (.int v0), .val (.int v1), .val (.int v2), .val (.int v3), .val (.int v4), .val (.int v5), .val (.int v6), .val (.int v7), .val (.ref b187), .val (.ref b203), .val (.ref b220), .val (.int mm0), .val (.int mm1), .val (.ref b265), .val (.int mm0), .unset] [(.int v5), (.ref b265)])
              refine Win.st ?_ (fun tq kq => XS.iconst X294.here hx rfl (hb hby at_407) kq)
              show Win p e below _ T294 (mkF mt 408 #[.val (.int chars), .val (.int sel), .val (.int lens), .val (.int o), .val (.int c), .val (.int f), .val (.int g), .val (.int l1), .val (.int l2), .val (.int v0), .val (.int v1), .val (.int v2), .val (.int v3), .val (.int v4), .val (.int v5), .val (.int v6), .val (.int v7), .val (.ref b187), .val (.ref b203), .val (.ref b220), .val (.int mm0), .val (.int mm1), .val (.ref b265), .val (.int mm0), .unset] [(.int (0 : Int32)), (.int v5), (.ref b265)])
              exact jo5 T294 _ ((0 : Int32)) X294 e294 N294 ((if_neg hc400).symm)
          by_cases hc379 : (0 : Int32) < l2
          · refine Win.st ?_ (fun tq kq => XS.ifNo X290.here hx rfl (hb hby at_379) rfl ((if0 _ _).trans (tlt hc379).2.2.2) kq)
            show Win p e below _ T290 (mkF mt 382 #[.val (.int chars), .val (.int sel), .val (.int lens), .val (.int o), .val (.int c), .val (.int f), .val (.int g), .val (.int l1), .val (.int l2), .val (.int v0), .val (.int v1), .val (.int v2), .val (.int v3), .val (.int v4), .val (.int v5), .val (.int v6), .val (.int v7), .val (.ref b187), .val (.ref b203), .val (.ref b220), .val (.int mm0), .val (.int mm1), .val (.ref b265), .val (.int mm0), .unset] [(.int v4), (.ref b265)])
            refine Win.st ?_ (fun tq kq => XS.iconst X290.here hx rfl (hb hby at_382) kq)
            show Win p e below _ T290 (mkF mt 383 #[.val (.int chars), .val (.int sel), .val (.int lens), .val (.int o), .val (.int c), .val (.int f), .val (.int g), .val (.int l1), .val (.int l2), .val (.int v0), .val (.int v1), .val (.int v2), .val (.int v3), .val (.int v4), .val (.int v5), .val (.int v6), .val (.int v7), .val (.ref b187), .val (.ref b203), .val (.ref b220), .val (.int mm0), .val (.int mm1), .val (.ref b265), .val (.int mm0), .unset] [(.int (1 : Int32)), (.int v4), (.ref b265)])
            refine Win.st ?_ (fun tq kq => XS.goto X290.here hx rfl (pc0 := 383) (pc' := 387) rfl (hb hby at_383) (by decide) (by decide) kq)
            show Win p e below _ T290 (mkF mt 387 #[.val (.int chars), .val (.int sel), .val (.int lens), .val (.int o), .val (.int c), .val (.int f), .val (.int g), .val (.int l1), .val (.int l2), .val (.int v0), .val (.int v1), .val (.int v2), .val (.int v3), .val (.int v4), .val (.int v5), .val (.int v6), .val (.int v7), .val (.ref b187), .val (.ref b203), .val (.ref b220), .val (.int mm0), .val (.int mm1), .val (.ref b265), .val (.int mm0), .unset] [(.int (1 : Int32)), (.int v4), (.ref b265)])
            exact jo4 T290 _ ((1 : Int32)) X290 e290 N290 ((if_pos hc379).symm)
          · refine Win.st ?_ (fun tq kq => XS.ifYes X290.here hx rfl (pc0 := 379) (pc' := 386) rfl (hb hby at_379) rfl ((if0 _ _).trans (flt hc379).2.2.2) (by decide) (by decide) kq)
            show Win p e below _ T290 (mkF mt 386 #[.val (.int chars), .val (.int sel), .val (.int lens), .val (.int o), .val (.int c), .val (.int f), .val (.int g), .val (.int l1), .val (.int l2), .val (.int v0), .val (.int v1), .val (.int v2), .val (.int v3), .val (.int v4), .val (.int v5), .val (.int v6), .val (.int v7), .val (.ref b187), .val (.ref b203), .val (.ref b220), .val (.int mm0), .val (.int mm1), .val (.ref b265), .val (.int mm0), .unset] [(.int v4), (.ref b265)])
            refine Win.st ?_ (fun tq kq => XS.iconst X290.here hx rfl (hb hby at_386) kq)
            show Win p e below _ T290 (mkF mt 387 #[.val (.int chars), .val (.int sel), .val (.int lens), .val (.int o), .val (.int c), .val (.int f), .val (.int g), .val (.int l1), .val (.int l2), .val (.int v0), .val (.int v1), .val (.int v2), .val (.int v3), .val (.int v4), .val (.int v5), .val (.int v6), .val (.int v7), .val (.ref b187), .val (.ref b203), .val (.ref b220), .val (.int mm0), .val (.int mm1), .val (.ref b265), .val (.int mm0), .unset] [(.int (0 : Int32)), (.int v4), (.ref b265)])
            exact jo4 T290 _ ((0 : Int32)) X290 e290 N290 ((if_neg hc379).symm)
        by_cases hc353 : (3 : Int32) < l1
        · refine Win.st ?_ (fun tq kq => XS.icmpNo X286.here hx rfl (hb hby at_353) rfl (tlt hc353).2.2.2 kq)
          show Win p e below _ T286 (mkF mt 356 #[.val (.int chars), .val (.int sel), .val (.int lens), .val (.int o), .val (.int c), .val (.int f), .val (.int g), .val (.int l1), .val (.int l2), .val (.int v0), .val (.int v1), .val (.int v2), .val (.int v3), .val (.int v4), .val (.int v5), .val (.int v6), .val (.int v7), .val (.ref b187), .val (.ref b203), .val (.ref b220), .val (.int mm0), .val (.int mm1), .val (.ref b265), .unset, .unset] [(.int v3), (.ref b265)])
          refine Win.st ?_ (fun tq kq => XS.iconst X286.here hx rfl (hb hby at_356) kq)
          show Win p e below _ T286 (mkF mt 357 #[.val (.int chars), .val (.int sel), .val (.int lens), .val (.int o), .val (.int c), .val (.int f), .val (.int g), .val (.int l1), .val (.int l2), .val (.int v0), .val (.int v1), .val (.int v2), .val (.int v3), .val (.int v4), .val (.int v5), .val (.int v6), .val (.int v7), .val (.ref b187), .val (.ref b203), .val (.ref b220), .val (.int mm0), .val (.int mm1), .val (.ref b265), .unset, .unset] [(.int (1 : Int32)), (.int v3), (.ref b265)])
          refine Win.st ?_ (fun tq kq => XS.goto X286.here hx rfl (pc0 := 357) (pc' := 361) rfl (hb hby at_357) (by decide) (by decide) kq)
          show Win p e below _ T286 (mkF mt 361 #[.val (.int chars), .val (.int sel), .val (.int lens), .val (.int o), .val (.int c), .val (.int f), .val (.int g), .val (.int l1), .val (.int l2), .val (.int v0), .val (.int v1), .val (.int v2), .val (.int v3), .val (.int v4), .val (.int v5), .val (.int v6), .val (.int v7), .val (.ref b187), .val (.ref b203), .val (.ref b220), .val (.int mm0), .val (.int mm1), .val (.ref b265), .unset, .unset] [(.int (1 : Int32)), (.int v3), (.ref b265)])
          exact jo3 T286 _ ((1 : Int32)) X286 e286 N286 ((if_pos hc353).symm)
        · refine Win.st ?_ (fun tq kq => XS.icmpYes X286.here hx rfl (pc0 := 353) (pc' := 360) rfl (hb hby at_353) rfl (flt hc353).2.2.2 (by decide) (by decide) kq)
          show Win p e below _ T286 (mkF mt 360 #[.val (.int chars), .val (.int sel), .val (.int lens), .val (.int o), .val (.int c), .val (.int f), .val (.int g), .val (.int l1), .val (.int l2), .val (.int v0), .val (.int v1), .val (.int v2), .val (.int v3), .val (.int v4), .val (.int v5), .val (.int v6), .val (.int v7), .val (.ref b187), .val (.ref b203), .val (.ref b220), .val (.int mm0), .val (.int mm1), .val (.ref b265), .unset, .unset] [(.int v3), (.ref b265)])
          refine Win.st ?_ (fun tq kq => XS.iconst X286.here hx rfl (hb hby at_360) kq)
          show Win p e below _ T286 (mkF mt 361 #[.val (.int chars), .val (.int sel), .val (.int lens), .val (.int o), .val (.int c), .val (.int f), .val (.int g), .val (.int l1), .val (.int l2), .val (.int v0), .val (.int v1), .val (.int v2), .val (.int v3), .val (.int v4), .val (.int v5), .val (.int v6), .val (.int v7), .val (.ref b187), .val (.ref b203), .val (.ref b220), .val (.int mm0), .val (.int mm1), .val (.ref b265), .unset, .unset] [(.int (0 : Int32)), (.int v3), (.ref b265)])
          exact jo3 T286 _ ((0 : Int32)) X286 e286 N286 ((if_neg hc353).symm)
      by_cases hc332 : (2 : Int32) < l1
      · refine Win.st ?_ (fun tq kq => XS.icmpNo X282.here hx rfl (hb hby at_332) rfl (tlt hc332).2.2.2 kq)
        show Win p e below _ T282 (mkF mt 335 #[.val (.int chars), .val (.int sel), .val (.int lens), .val (.int o), .val (.int c), .val (.int f), .val (.int g), .val (.int l1), .val (.int l2), .val (.int v0), .val (.int v1), .val (.int v2), .val (.int v3), .val (.int v4), .val (.int v5), .val (.int v6), .val (.int v7), .val (.ref b187), .val (.ref b203), .val (.ref b220), .val (.int mm0), .val (.int mm1), .val (.ref b265), .unset, .unset] [(.int v2), (.ref b265)])
        refine Win.st ?_ (fun tq kq => XS.iconst X282.here hx rfl (hb hby at_335) kq)
        show Win p e below _ T282 (mkF mt 336 #[.val (.int chars), .val (.int sel), .val (.int lens), .val (.int o), .val (.int c), .val (.int f), .val (.int g), .val (.int l1), .val (.int l2), .val (.int v0), .val (.int v1), .val (.int v2), .val (.int v3), .val (.int v4), .val (.int v5), .val (.int v6), .val (.int v7), .val (.ref b187), .val (.ref b203), .val (.ref b220), .val (.int mm0), .val (.int mm1), .val (.ref b265), .unset, .unset] [(.int (1 : Int32)), (.int v2), (.ref b265)])
        refine Win.st ?_ (fun tq kq => XS.goto X282.here hx rfl (pc0 := 336) (pc' := 340) rfl (hb hby at_336) (by decide) (by decide) kq)
        show Win p e below _ T282 (mkF mt 340 #[.val (.int chars), .val (.int sel), .val (.int lens), .val (.int o), .val (.int c), .val (.int f), .val (.int g), .val (.int l1), .val (.int l2), .val (.int v0), .val (.int v1), .val (.int v2), .val (.int v3), .val (.int v4), .val (.int v5), .val (.int v6), .val (.int v7), .val (.ref b187), .val (.ref b203), .val (.ref b220), .val (.int mm0), .val (.int mm1), .val (.ref b265), .unset, .unset] [(.int (1 : Int32)), (.int v2), (.ref b265)])
        exact jo2 T282 _ ((1 : Int32)) X282 e282 N282 ((if_pos hc332).symm)
      · refine Win.st ?_ (fun tq kq => XS.icmpYes X282.here hx rfl (pc0 := 332) (pc' := 339) rfl (hb hby at_332) rfl (flt hc332).2.2.2 (by decide) (by decide) kq)
        show Win p e below _ T282 (mkF mt 339 #[.val (.int chars), .val (.int sel), .val (.int lens), .val (.int o), .val (.int c), .val (.int f), .val (.int g), .val (.int l1), .val (.int l2), .val (.int v0), .val (.int v1), .val (.int v2), .val (.int v3), .val (.int v4), .val (.int v5), .val (.int v6), .val (.int v7), .val (.ref b187), .val (.ref b203), .val (.ref b220), .val (.int mm0), .val (.int mm1), .val (.ref b265), .unset, .unset] [(.int v2), (.ref b265)])
        refine Win.st ?_ (fun tq kq => XS.iconst X282.here hx rfl (hb hby at_339) kq)
        show Win p e below _ T282 (mkF mt 340 #[.val (.int chars), .val (.int sel), .val (.int lens), .val (.int o), .val (.int c), .val (.int f), .val (.int g), .val (.int l1), .val (.int l2), .val (.int v0), .val (.int v1), .val (.int v2), .val (.int v3), .val (.int v4), .val (.int v5), .val (.int v6), .val (.int v7), .val (.ref b187), .val (.ref b203), .val (.ref b220), .val (.int mm0), .val (.int mm1), .val (.ref b265), .unset, .unset] [(.int (0 : Int32)), (.int v2), (.ref b265)])
        exact jo2 T282 _ ((0 : Int32)) X282 e282 N282 ((if_neg hc332).symm)
    by_cases hc311 : (1 : Int32) < l1
    · refine Win.st ?_ (fun tq kq => XS.icmpNo X278.here hx rfl (hb hby at_311) rfl (tlt hc311).2.2.2 kq)
      show Win p e below _ T278 (mkF mt 314 #[.val (.int chars), .val (.int sel), .val (.int lens), .val (.int o), .val (.int c), .val (.int f), .val (.int g), .val (.int l1), .val (.int l2), .val (.int v0), .val (.int v1), .val (.int v2), .val (.int v3), .val (.int v4), .val (.int v5), .val (.int v6), .val (.int v7), .val (.ref b187), .val (.ref b203), .val (.ref b220), .val (.int mm0), .val (.int mm1), .val (.ref b265), .unset, .unset] [(.int v1), (.ref b265)])
      refine Win.st ?_ (fun tq kq => XS.iconst X278.here hx rfl (hb hby at_314) kq)
      show Win p e below _ T278 (mkF mt 315 #[.val (.int chars), .val (.int sel), .val (.int lens), .val (.int o), .val (.int c), .val (.int f), .val (.int g), .val (.int l1), .val (.int l2), .val (.int v0), .val (.int v1), .val (.int v2), .val (.int v3), .val (.int v4), .val (.int v5), .val (.int v6), .val (.int v7), .val (.ref b187), .val (.ref b203), .val (.ref b220), .val (.int mm0), .val (.int mm1), .val (.ref b265), .unset, .unset] [(.int (1 : Int32)), (.int v1), (.ref b265)])
      refine Win.st ?_ (fun tq kq => XS.goto X278.here hx rfl (pc0 := 315) (pc' := 319) rfl (hb hby at_315) (by decide) (by decide) kq)
      show Win p e below _ T278 (mkF mt 319 #[.val (.int chars), .val (.int sel), .val (.int lens), .val (.int o), .val (.int c), .val (.int f), .val (.int g), .val (.int l1), .val (.int l2), .val (.int v0), .val (.int v1), .val (.int v2), .val (.int v3), .val (.int v4), .val (.int v5), .val (.int v6), .val (.int v7), .val (.ref b187), .val (.ref b203), .val (.ref b220), .val (.int mm0), .val (.int mm1), .val (.ref b265), .unset, .unset] [(.int (1 : Int32)), (.int v1), (.ref b265)])
      exact jo1 T278 _ ((1 : Int32)) X278 e278 N278 ((if_pos hc311).symm)
    · refine Win.st ?_ (fun tq kq => XS.icmpYes X278.here hx rfl (pc0 := 311) (pc' := 318) rfl (hb hby at_311) rfl (flt hc311).2.2.2 (by decide) (by decide) kq)
      show Win p e below _ T278 (mkF mt 318 #[.val (.int chars), .val (.int sel), .val (.int lens), .val (.int o), .val (.int c), .val (.int f), .val (.int g), .val (.int l1), .val (.int l2), .val (.int v0), .val (.int v1), .val (.int v2), .val (.int v3), .val (.int v4), .val (.int v5), .val (.int v6), .val (.int v7), .val (.ref b187), .val (.ref b203), .val (.ref b220), .val (.int mm0), .val (.int mm1), .val (.ref b265), .unset, .unset] [(.int v1), (.ref b265)])
      refine Win.st ?_ (fun tq kq => XS.iconst X278.here hx rfl (hb hby at_318) kq)
      show Win p e below _ T278 (mkF mt 319 #[.val (.int chars), .val (.int sel), .val (.int lens), .val (.int o), .val (.int c), .val (.int f), .val (.int g), .val (.int l1), .val (.int l2), .val (.int v0), .val (.int v1), .val (.int v2), .val (.int v3), .val (.int v4), .val (.int v5), .val (.int v6), .val (.int v7), .val (.ref b187), .val (.ref b203), .val (.ref b220), .val (.int mm0), .val (.int mm1), .val (.ref b265), .unset, .unset] [(.int (0 : Int32)), (.int v1), (.ref b265)])
      exact jo1 T278 _ ((0 : Int32)) X278 e278 N278 ((if_neg hc311).symm)
  by_cases hc290 : (0 : Int32) < l1
  · refine Win.st ?_ (fun tq kq => XS.ifNo X265.here hx rfl (hb hby at_290) rfl ((if0 _ _).trans (tlt hc290).2.2.2) kq)
    show Win p e below _ T265 (mkF mt 293 #[.val (.int chars), .val (.int sel), .val (.int lens), .val (.int o), .val (.int c), .val (.int f), .val (.int g), .val (.int l1), .val (.int l2), .val (.int v0), .val (.int v1), .val (.int v2), .val (.int v3), .val (.int v4), .val (.int v5), .val (.int v6), .val (.int v7), .val (.ref b187), .val (.ref b203), .val (.ref b220), .val (.int mm0), .val (.int mm1), .val (.ref b265), .unset, .unset] [(.int v0), (.ref b265)])
    refine Win.st ?_ (fun tq kq => XS.iconst X265.here hx rfl (hb hby at_293) kq)
    show Win p e below _ T265 (mkF mt 294 #[.val (.int chars), .val (.int sel), .val (.int lens), .val (.int o), .val (.int c), .val (.int f), .val (.int g), .val (.int l1), .val (.int l2), .val (.int v0), .val (.int v1), .val (.int v2), .val (.int v3), .val (.int v4), .val (.int v5), .val (.int v6), .val (.int v7), .val (.ref b187), .val (.ref b203), .val (.ref b220), .val (.int mm0), .val (.int mm1), .val (.ref b265), .unset, .unset] [(.int (1 : Int32)), (.int v0), (.ref b265)])
    refine Win.st ?_ (fun tq kq => XS.goto X265.here hx rfl (pc0 := 294) (pc' := 298) rfl (hb hby at_294) (by decide) (by decide) kq)
    show Win p e below _ T265 (mkF mt 298 #[.val (.int chars), .val (.int sel), .val (.int lens), .val (.int o), .val (.int c), .val (.int f), .val (.int g), .val (.int l1), .val (.int l2), .val (.int v0), .val (.int v1), .val (.int v2), .val (.int v3), .val (.int v4), .val (.int v5), .val (.int v6), .val (.int v7), .val (.ref b187), .val (.ref b203), .val (.ref b220), .val (.int mm0), .val (.int mm1), .val (.ref b265), .unset, .unset] [(.int (1 : Int32)), (.int v0), (.ref b265)])
    exact jo0 T265 _ ((1 : Int32)) X265 e265 N264 ((if_pos hc290).symm)
  · refine Win.st ?_ (fun tq kq => XS.ifYes X265.here hx rfl (pc0 := 290) (pc' := 297) rfl (hb hby at_290) rfl ((if0 _ _).trans (flt hc290).2.2.2) (by decide) (by decide) kq)
    show Win p e below _ T265 (mkF mt 297 #[.val (.int chars), .val (.int sel), .val (.int lens), .val (.int o), .val (.int c), .val (.int f), .val (.int g), .val (.int l1), .val (.int l2), .val (.int v0), .val (.int v1), .val (.int v2), .val (.int v3), .val (.int v4), .val (.int v5), .val (.int v6), .val (.int v7), .val (.ref b187), .val (.ref b203), .val (.ref b220), .val (.int mm0), .val (.int mm1), .val (.ref b265), .unset, .unset] [(.int v0), (.ref b265)])
    refine Win.st ?_ (fun tq kq => XS.iconst X265.here hx rfl (hb hby at_297) kq)
    show Win p e below _ T265 (mkF mt 298 #[.val (.int chars), .val (.int sel), .val (.int lens), .val (.int o), .val (.int c), .val (.int f), .val (.int g), .val (.int l1), .val (.int l2), .val (.int v0), .val (.int v1), .val (.int v2), .val (.int v3), .val (.int v4), .val (.int v5), .val (.int v6), .val (.int v7), .val (.ref b187), .val (.ref b203), .val (.ref b220), .val (.int mm0), .val (.int mm1), .val (.ref b265), .unset, .unset] [(.int (0 : Int32)), (.int v0), (.ref b265)])
    exact jo0 T265 _ ((0 : Int32)) X265 e265 N264 ((if_neg hc290).symm)
set_option maxRecDepth 65536 in
set_option maxHeartbeats 40000000 in
theorem comes_1 {Post : Tables → Env → Array Value → State → Outcome → State → Prop} (hpost : ∀ tb e args s v u, (limb_1_1.after args s (.returned v) u = true ∧ limb_1_2.after args s (.returned v) u = true ∧ True) → FrameEnd s (.returned v) u (Jvm.fieldLocs frame_1_writes args s ++ Jvm.arrayLocs frame_1_arrays args s ++ Jvm.staticLocs frame_1_statics s) 32 640 → Post tb e args s (.returned v) u) :
    ArmFor flags0 classFile x code maxLocals ret World_1 tables_1 room_1 Calls_1 rest_1 Pre_1 Post := by
  intro l hfl _ _ p e ha hc hk s m args below hf hA hF happ hP
  obtain ⟨hcalls, hrest, hpre⟩ := hP
  obtain ⟨-, -, -, hnamed, -, -, -, hat⟩ := (Spec.applies_iff hf).mp happ
  obtain ⟨hg, hn⟩ := and_e (Cond.before_iff.mp (show (Jvm.Cond.and given_1 narrow_1).before args s = true from hpre))
  obtain ⟨ga0, gb0⟩ := and_e hg
  obtain ⟨ga1, gb1⟩ := and_e gb0
  obtain ⟨ga2, gb2⟩ := and_e gb1
  obtain ⟨w0, w1, w2, rfl⟩ : ∃ w0 w1 w2 : Value, args = #[w0, w1, w2] := by
    have hs : args.size = 3 := by simpa [Cond.value, given_1] using ga0
    obtain ⟨L⟩ := args
    match L, hs with
    | [w0, w1, w2], _ => exact ⟨w0, w1, w2, rfl⟩
  have hw := fun d (hd : d ∈ tables_1) => atoms_spec (ws := Jvm.Cond.code x code maxLocals ret :: tables_1) hat d (List.mem_cons_of_mem _ hd)
  have hfit : Fit s := fun {y c} hc i hi => by
    obtain ⟨ha, rfl⟩ := Array.getElem?_eq_some_iff.mp hc
    have q := List.all_eq_true.mp ((Array.all_eq_true_iff_forall_mem.mp hF) _ (Array.getElem_mem ha)) i (List.mem_range.mpr hi)
    simpa [Array.getElem?_eq_getElem hi] using q
  obtain ⟨hsets, hown0⟩ := atoms_of _ (rest_1_c_eq ▸ (show rest_1_c.before _ s = true from hrest))
  have hr0 := Cond.before_iff.mp hown0
  obtain ⟨i0, ei0⟩ := is_v ga1
  obtain rfl : w0 = (.int i0) := Option.some.inj ei0
  obtain ⟨i1, ei1⟩ := is_v ga2
  obtain rfl : w1 = (.int i1) := Option.some.inj ei1
  obtain ⟨i2, ei2⟩ := is_v gb2
  obtain rfl : w2 = (.int i2) := Option.some.inj ei2
  obtain ⟨cs, hcs0⟩ := is_v (Cond.before_iff.mp (hsets _ (List.mem_of_getElem? (i := 1) rfl)))
  have hcs : ¬ cs = (0 : Int32) := fun q => by
    have z := Cond.before_iff.mp (hsets _ (List.mem_of_getElem? (i := 2) rfl))
    have z2 := not_v z
    have z3 := eq_i hcs0 (Term.int_eval (0 : Int32)) (by rw [q])
    rw [z3] at z2
    simp at z2
  have S0 := Sta.start hcs0 (Or.inl (hsets _ (List.mem_of_getElem? (i := 0) rfl)))
  obtain ⟨u, hu0, hu⟩ := isR_v (Cond.before_iff.mp (hsets _ (List.mem_of_getElem? (i := 8) rfl)))
  have S1 := Sta.start hu0 (Or.inl (hsets _ (List.mem_of_getElem? (i := 7) rfl)))
  obtain ⟨n, o, h1, h2, h3, _, L, rfl, ⟨rfl, N⟩, hq⟩ := rm_law l s _ hw tables_1 i0 i1 i2 cs u s.heap s.heap.size (Nat.le_refl _) S0 hcs (Old.start s) S1 hu p e ha hc hk s m _ below hf ((Spec.applies_iff_loose hf).mp happ).1 ⟨rfl, State.Warmed39.refl s, rfl⟩ trivial
  refine ⟨n, _, h1, h2, h3, hpost _ _ _ _ _ _ ⟨Cond.after_iff.mpr rfl, Cond.after_iff.mpr (eq_i res_at (Term.int_eval (1)) rfl), trivial⟩ ⟨hq.1, hq.2.1, (hq.2.2.sift fun y hy => Or.inr (N y hy)).mono (by decide) (by decide)⟩⟩
theorem main_1_1 : Claimed_1_1 := comes_1 fun _ _ _ _ _ _ h hF => ⟨h.1, hF⟩
theorem main_1_2 : Claimed_1_2 := comes_1 fun _ _ _ _ _ _ h hF => ⟨h.2.1, hF⟩
end Jvm.Pilot.@@N@@
namespace Jvm.Pilot.@@N@@
open Jvm Jvm.ClassFile Sem Op Lib Jvm.Free Jvm.Stand Jvm.Pilot.@@N@@.Jvm.D
/-! MADE BY PROGRAM (witnessworld.py) out of the Statement's table words and the real class files: 18 classes; the members and pool entries that the words name. The judged class is class 1, her method 1. -/
namespace start1
open Jvm.ClassFile
def u (s : String) : CpInfo := .utf8 (stringToUtf16 s)
/-- a pool by its gaps: so many unusable entries, then the entry; so many at the end -/
def gap : Nat → List CpInfo → List CpInfo
  | 0, r => r
  | n + 1, r => .unusable :: gap n r
def poolList (es : List (Nat × CpInfo)) (last : Nat) : List CpInfo := es.foldr (fun e r => gap e.1 (e.2 :: r)) (gap last [])
def pool (es : List (Nat × CpInfo)) (last : Nat) : Array CpInfo := ⟨poolList es last⟩
def fileOf (pool : Array CpInfo) (this : Nat) (attrs : Array Attribute := #[]) (ms : Array MethodInfo := #[]) (fl : Nat := 33) (sup : Nat := 0) (ifs : Array Nat := #[]) (fds : Array FieldInfo := #[]) : ClassFile where
  minorVersion := 0
  majorVersion := 65
  constantPool := pool
  accessFlags := fl
  thisClass := this
  superClass := sup
  interfaces := ifs
  fields := fds
  methods := ms
  attributes := attrs
def plain (name : String) (sup : Option ClassId) : Class where
  name := name
  kind := .ordinary
  loader := none
  accessFlags := 33
  super := sup
  interfaces := #[]
  cf := none
  fields := #[]
  methods := #[]
  instanceTypes := #[]
  staticTypes := #[]
  resolved := #[]
  callSites := []
  init := .initialized
  statics := none
  mirror := none

def pool0 : Array CpInfo := pool [(5, u "<init>"), (0, u "()V"), (1, .class_ 10), (1, u "java/lang/Object")] 113

def k0c0 : Code := { maxStack := 0, maxLocals := 1, code := object_method_1_code, exceptionTable := #[], attributes := #[] }
def k0m0 : Method := { name := "<init>", desc := "()V", sig := { parameters := [], returnType := none }, accessFlags := 1, code := some k0c0 }
/-- java/lang/Object -/
def k0 : Class := { plain "java/lang/Object" none with
  accessFlags := 33
  interfaces := #[]
  cf := some (fileOf pool0 8 #[] #[{ accessFlags := 1, nameIndex := 5, descriptorIndex := 6, attributes := #[] }] 33 0 #[] #[])
  fields := #[]
  methods := #[k0m0]
  instanceTypes := #[]
  staticTypes := #[]
  resolved := Array.replicate 124 none
  statics := none }

def pool1 : Array CpInfo := pool [(2, .class_ 4), (1, u "java/lang/Object"), (0, u "<init>"), (0, u "()V"), (0, .integer 2147483647), (0, .methodref 9 10), (0, .class_ 11), (0, .nameAndType 12 13), (0, u "com/example/modest_tableau/modesttableau/document/BracketDepthAddPinLaw"), (0, u "pick"), (0, u "(IIIIII)I"), (0, .class_ 15), (0, u "com/example/modest_tableau/modesttableau/document/BracketDepth"), (0, .methodref 17 18), (0, .class_ 19), (0, .nameAndType 20 21), (0, u "java/lang/String"), (0, u "valueOf"), (0, u "(C)Ljava/lang/String;"), (0, .methodref 14 23), (0, .nameAndType 5 24), (0, u "(Ljava/lang/String;Ljava/lang/String;)V"), (0, .methodref 14 26), (0, .nameAndType 27 28), (0, u "add"), (0, u "([BI)V"), (0, .methodref 14 30), (0, .nameAndType 31 32), (0, u "deepest"), (0, u "()I"), (0, .methodref 9 34), (0, .nameAndType 35 36), (0, u "feed"), (0, u "([IIZII)V"), (2, u "law"), (0, u "(III)Z")] 7

def k1m0 : Method := { name := "<init>", desc := "()V", sig := { parameters := [], returnType := none }, accessFlags := 1, code := none }
def k1c1 : Code := { maxStack := 6, maxLocals := 25, code := code, exceptionTable := #[], attributes := #[] }
def k1m1 : Method := { name := "law", desc := "(III)Z", sig := { parameters := [.int, .int, .int], returnType := some .boolean }, accessFlags := 9, code := some k1c1 }
def k1c2 : Code := { maxStack := 3, maxLocals := 7, code := method_3_code, exceptionTable := #[], attributes := #[] }
def k1m2 : Method := { name := "pick", desc := "(IIIIII)I", sig := { parameters := [.int, .int, .int, .int, .int, .int], returnType := some .int }, accessFlags := 10, code := some k1c2 }
def k1c3 : Code := { maxStack := 4, maxLocals := 6, code := method_4_code, exceptionTable := #[], attributes := #[] }
def k1m3 : Method := { name := "feed", desc := "([IIZII)V", sig := { parameters := [(.array .int), .int, .boolean, .int, .int], returnType := none }, accessFlags := 10, code := some k1c3 }
/-- com/example/modest_tableau/modesttableau/document/BracketDepthAddPinLaw -/
def k1 : Class := { plain "com/example/modest_tableau/modesttableau/document/BracketDepthAddPinLaw" (some 0) with
  accessFlags := 49
  interfaces := #[]
  cf := some (fileOf pool1 9 #[] #[{ accessFlags := 1, nameIndex := 5, descriptorIndex := 6, attributes := #[] }, { accessFlags := 9, nameIndex := 39, descriptorIndex := 40, attributes := #[] }, { accessFlags := 10, nameIndex := 12, descriptorIndex := 13, attributes := #[] }, { accessFlags := 10, nameIndex := 35, descriptorIndex := 36, attributes := #[] }] 49 2 #[] #[])
  fields := #[]
  methods := #[k1m0, k1m1, k1m2, k1m3]
  instanceTypes := #[]
  staticTypes := #[]
  resolved := Array.replicate 48 none
  statics := none }

def pool2 : Array CpInfo := pool [(1, .methodref 2 3), (0, .class_ 4), (0, .nameAndType 5 6), (0, u "java/lang/Object"), (0, u "<init>"), (0, u "()V"), (0, .fieldref 8 9), (0, .class_ 10), (0, .nameAndType 11 12), (0, u "com/example/modest_tableau/modesttableau/document/BracketDepth"), (0, u "steps"), (0, u "[B"), (0, .methodref 14 15), (0, .class_ 16), (0, .nameAndType 17 18), (0, u "java/lang/String"), (0, u "length"), (0, u "()I"), (0, .methodref 14 20), (0, .nameAndType 21 22), (0, u "charAt"), (0, u "(I)C"), (0, .methodref 8 24), (0, .nameAndType 25 26), (0, u "latin1"), (0, u "(C)I"), (4, .methodref 8 32), (0, .nameAndType 33 34), (0, u "step"), (0, u "(B)V"), (0, .fieldref 8 36), (0, .nameAndType 37 38), (0, u "deepest"), (0, u "I"), (0, .fieldref 8 40), (0, .nameAndType 41 38), (0, u "depth"), (0, .methodref 43 44), (0, .class_ 45), (0, .nameAndType 46 47), (0, u "java/lang/Math"), (0, u "max"), (0, u "(II)I"), (9, u "(Ljava/lang/String;Ljava/lang/String;)V"), (3, u "add"), (1, u "([BI)V")] 17

def k2c0 : Code := { maxStack := 3, maxLocals := 4, code := prog_18_method_1_code, exceptionTable := #[], attributes := #[] }
def k2m0 : Method := { name := "<init>", desc := "(Ljava/lang/String;Ljava/lang/String;)V", sig := { parameters := [(.object "java/lang/String"), (.object "java/lang/String")], returnType := none }, accessFlags := 1, code := some k2c0 }
def k2c1 : Code := { maxStack := 4, maxLocals := 4, code := prog_18_method_3_code, exceptionTable := #[], attributes := #[] }
def k2m1 : Method := { name := "add", desc := "([BI)V", sig := { parameters := [(.array .byte), .int], returnType := none }, accessFlags := 1, code := some k2c1 }
def k2c2 : Code := { maxStack := 1, maxLocals := 1, code := prog_18_method_4_code, exceptionTable := #[], attributes := #[] }
def k2m2 : Method := { name := "deepest", desc := "()I", sig := { parameters := [], returnType := some .int }, accessFlags := 1, code := some k2c2 }
def k2c3 : Code := { maxStack := 3, maxLocals := 2, code := prog_18_method_5_code, exceptionTable := #[], attributes := #[] }
def k2m3 : Method := { name := "step", desc := "(B)V", sig := { parameters := [.byte], returnType := none }, accessFlags := 2, code := some k2c3 }
def k2c4 : Code := { maxStack := 3, maxLocals := 1, code := prog_18_method_6_code, exceptionTable := #[], attributes := #[] }
def k2m4 : Method := { name := "latin1", desc := "(C)I", sig := { parameters := [.char], returnType := some .int }, accessFlags := 10, code := some k2c4 }
/-- com/example/modest_tableau/modesttableau/document/BracketDepth -/
def k2 : Class := { plain "com/example/modest_tableau/modesttableau/document/BracketDepth" (some 0) with
  accessFlags := 49
  interfaces := #[]
  cf := some (fileOf pool2 8 #[] #[{ accessFlags := 1, nameIndex := 5, descriptorIndex := 57, attributes := #[] }, { accessFlags := 1, nameIndex := 61, descriptorIndex := 63, attributes := #[] }, { accessFlags := 1, nameIndex := 37, descriptorIndex := 18, attributes := #[] }, { accessFlags := 2, nameIndex := 33, descriptorIndex := 34, attributes := #[] }, { accessFlags := 10, nameIndex := 25, descriptorIndex := 26, attributes := #[] }] 49 2 #[] #[{ accessFlags := 18, nameIndex := 11, descriptorIndex := 12, attributes := #[] }, { accessFlags := 2, nameIndex := 41, descriptorIndex := 38, attributes := #[] }, { accessFlags := 2, nameIndex := 37, descriptorIndex := 38, attributes := #[] }])
  fields := #[{ name := "steps", type := (.array .byte), accessFlags := 18, slot := 0, constantValue := 0 }, { name := "depth", type := .int, accessFlags := 2, slot := 1, constantValue := 0 }, { name := "deepest", type := .int, accessFlags := 2, slot := 2, constantValue := 0 }]
  methods := #[k2m0, k2m1, k2m2, k2m3, k2m4]
  instanceTypes := #[(.array .byte), .int, .int]
  staticTypes := #[]
  resolved := Array.replicate 81 none
  statics := none }

def pool3 : Array CpInfo := pool [(1, .class_ 2), (0, u "java/io/Serializable"), (0, .class_ 4), (0, u "java/lang/Object")] 2

/-- java/io/Serializable -/
def k3 : Class := { plain "java/io/Serializable" (some 0) with
  accessFlags := 1537
  interfaces := #[]
  cf := some (fileOf pool3 1 #[] #[] 1537 3 #[] #[])
  fields := #[]
  methods := #[]
  instanceTypes := #[]
  staticTypes := #[]
  resolved := Array.replicate 7 none
  statics := none }

def pool4 : Array CpInfo := pool [(1, .class_ 2), (0, u "java/lang/Comparable"), (0, .class_ 4), (0, u "java/lang/Object")] 7

/-- java/lang/Comparable -/
def k4 : Class := { plain "java/lang/Comparable" (some 0) with
  accessFlags := 1537
  interfaces := #[]
  cf := some (fileOf pool4 1 #[] #[] 1537 3 #[] #[])
  fields := #[]
  methods := #[]
  instanceTypes := #[]
  staticTypes := #[]
  resolved := Array.replicate 12 none
  statics := none }

def pool5 : Array CpInfo := pool [(2, .class_ 4), (1, u "java/lang/CharSequence"), (42, .class_ 48), (0, u "java/lang/CharSequence$1CodePointIterator"), (10, .class_ 60), (0, u "java/lang/CharSequence$1CharIterator"), (5, .class_ 67), (0, u "java/lang/Object")] 63

/-- java/lang/CharSequence -/
def k5 : Class := { plain "java/lang/CharSequence" (some 0) with
  accessFlags := 1537
  interfaces := #[]
  cf := some (fileOf pool5 2 #[.nestMembers #[47, 59]] #[] 1537 66 #[] #[])
  fields := #[]
  methods := #[]
  instanceTypes := #[]
  staticTypes := #[]
  resolved := Array.replicate 131 none
  statics := none }

def pool6 : Array CpInfo := pool [(1, .class_ 2), (0, u "java/lang/constant/Constable"), (0, .class_ 4), (0, u "java/lang/Object")] 6

/-- java/lang/constant/Constable -/
def k6 : Class := { plain "java/lang/constant/Constable" (some 0) with
  accessFlags := 1537
  interfaces := #[]
  cf := some (fileOf pool6 1 #[] #[] 1537 3 #[] #[])
  fields := #[]
  methods := #[]
  instanceTypes := #[]
  staticTypes := #[]
  resolved := Array.replicate 11 none
  statics := none }

def pool7 : Array CpInfo := pool [(1, .class_ 2), (0, u "java/lang/constant/ConstantDesc"), (0, .class_ 4), (0, u "java/lang/Object")] 32

/-- java/lang/constant/ConstantDesc -/
def k7 : Class := { plain "java/lang/constant/ConstantDesc" (some 0) with
  accessFlags := 1537
  interfaces := #[]
  cf := some (fileOf pool7 1 #[] #[] 1537 3 #[] #[])
  fields := #[]
  methods := #[]
  instanceTypes := #[]
  staticTypes := #[]
  resolved := Array.replicate 37 none
  statics := none }

def pool8 : Array CpInfo := pool [(1, .methodref 2 3), (0, .class_ 4), (0, .nameAndType 5 6), (0, u "java/lang/Object"), (0, u "<init>"), (0, u "()V"), (2, .fieldref 10 11), (0, .class_ 12), (0, .nameAndType 13 14), (0, u "java/lang/String"), (0, u "value"), (0, u "[B"), (0, .fieldref 10 16), (0, .nameAndType 17 18), (0, u "coder"), (0, u "B"), (2, u "hash"), (0, u "I"), (2, u "hashIsZero"), (0, u "Z"), (11, .fieldref 10 39), (0, .nameAndType 40 26), (0, u "COMPACT_STRINGS"), (12, u "toBytes"), (53, .class_ 109), (1, u "java/lang/StringLatin1"), (32, u "()Z"), (66, .methodref 10 210), (0, .nameAndType 5 211), (0, u "([BB)V"), (122, u "()I"), (0, .methodref 10 336), (0, .nameAndType 17 337), (0, u "()B"), (25, u "([BI)C"), (5, u "(C)Z"), (21, u "(II)V"), (35, u "(I)C"), (64, .methodref 10 493), (0, .nameAndType 494 142), (0, u "isLatin1"), (0, .methodref 107 496), (0, .nameAndType 497 363), (0, u "charAt"), (3, u "checkIndex"), (5, u "length"), (67, .class_ 576), (0, u "java/lang/CharSequence"), (22, u "CASE_INSENSITIVE_ORDER"), (0, u "Ljava/util/Comparator;"), (181, u "valueOf"), (0, u "(C)Ljava/lang/String;"), (231, .methodref 107 1016), (0, .nameAndType 1017 369), (0, u "canEncode"), (0, .methodref 107 1019), (0, .nameAndType 53 1020), (0, u "(C)[B"), (32, .fieldref 1054 1055), (0, .class_ 1056), (0, .nameAndType 1057 1058), (0, u "jdk/internal/util/Preconditions"), (0, u "SIOOBE_FORMATTER"), (0, u "Ljava/util/function/BiFunction;"), (0, .methodref 1054 1060), (0, .nameAndType 501 1061), (0, u "(IILjava/util/function/BiFunction;)I"), (39, u "serialPersistentFields"), (0, u "[Ljava/io/ObjectStreamField;"), (0, .class_ 1104), (0, u "java/lang/String$CaseInsensitiveComparator"), (1, .class_ 1107), (0, u "java/io/Serializable"), (0, .class_ 1109), (0, u "java/lang/Comparable"), (0, .class_ 1111), (0, u "java/lang/constant/Constable"), (0, .class_ 1113), (0, u "java/lang/constant/ConstantDesc"), (2, u "serialVersionUID"), (0, u "J"), (3, u "REPL"), (0, u "C"), (2, u "LATIN1"), (1, u "UTF16")] 323

def k8m0 : Method := { name := "<init>", desc := "()V", sig := { parameters := [], returnType := none }, accessFlags := 1, code := none }
def k8c1 : Code := { maxStack := 2, maxLocals := 1, code := jdk_42_method_54_code, exceptionTable := #[], attributes := #[] }
def k8m1 : Method := { name := "length", desc := "()I", sig := { parameters := [], returnType := some .int }, accessFlags := 1, code := some k8c1 }
def k8c2 : Code := { maxStack := 2, maxLocals := 2, code := jdk_42_method_56_code, exceptionTable := #[], attributes := #[] }
def k8m2 : Method := { name := "charAt", desc := "(I)C", sig := { parameters := [.int], returnType := some .char }, accessFlags := 1, code := some k8c2 }
def k8c3 : Code := { maxStack := 4, maxLocals := 1, code := jdk_42_method_139_code, exceptionTable := #[], attributes := #[] }
def k8m3 : Method := { name := "valueOf", desc := "(C)Ljava/lang/String;", sig := { parameters := [.char], returnType := some (.object "java/lang/String") }, accessFlags := 9, code := some k8c3 }
def k8c4 : Code := { maxStack := 2, maxLocals := 3, code := jdk_42_method_151_code, exceptionTable := #[], attributes := #[] }
def k8m4 : Method := { name := "<init>", desc := "([BB)V", sig := { parameters := [(.array .byte), .byte], returnType := none }, accessFlags := 0, code := some k8c4 }
def k8c5 : Code := { maxStack := 1, maxLocals := 1, code := jdk_42_method_152_code, exceptionTable := #[], attributes := #[] }
def k8m5 : Method := { name := "coder", desc := "()B", sig := { parameters := [], returnType := some .byte }, accessFlags := 0, code := some k8c5 }
def k8c6 : Code := { maxStack := 1, maxLocals := 1, code := jdk_42_method_154_code, exceptionTable := #[], attributes := #[] }
def k8m6 : Method := { name := "isLatin1", desc := "()Z", sig := { parameters := [], returnType := some .boolean }, accessFlags := 0, code := some k8c6 }
def k8c7 : Code := { maxStack := 3, maxLocals := 2, code := jdk_42_method_155_code, exceptionTable := #[], attributes := #[] }
def k8m7 : Method := { name := "checkIndex", desc := "(II)V", sig := { parameters := [.int, .int], returnType := none }, accessFlags := 8, code := some k8c7 }
/-- java/lang/String -/
def k8 : Class := { plain "java/lang/String" (some 0) with
  accessFlags := 49
  interfaces := #[3, 4, 5, 6, 7]
  cf := some (fileOf pool8 10 #[.nestMembers #[1103]] #[{ accessFlags := 1, nameIndex := 5, descriptorIndex := 6, attributes := #[] }, { accessFlags := 1, nameIndex := 507, descriptorIndex := 334, attributes := #[] }, { accessFlags := 1, nameIndex := 497, descriptorIndex := 427, attributes := #[] }, { accessFlags := 9, nameIndex := 782, descriptorIndex := 783, attributes := #[] }, { accessFlags := 0, nameIndex := 5, descriptorIndex := 211, attributes := #[] }, { accessFlags := 0, nameIndex := 17, descriptorIndex := 337, attributes := #[] }, { accessFlags := 0, nameIndex := 494, descriptorIndex := 142, attributes := #[] }, { accessFlags := 8, nameIndex := 501, descriptorIndex := 391, attributes := #[] }] 49 2 #[1106, 1108, 575, 1110, 1112] #[{ accessFlags := 18, nameIndex := 13, descriptorIndex := 14, attributes := #[] }, { accessFlags := 18, nameIndex := 17, descriptorIndex := 18, attributes := #[] }, { accessFlags := 2, nameIndex := 21, descriptorIndex := 22, attributes := #[] }, { accessFlags := 2, nameIndex := 25, descriptorIndex := 26, attributes := #[] }, { accessFlags := 26, nameIndex := 1116, descriptorIndex := 1117, attributes := #[] }, { accessFlags := 24, nameIndex := 40, descriptorIndex := 26, attributes := #[] }, { accessFlags := 26, nameIndex := 1101, descriptorIndex := 1102, attributes := #[] }, { accessFlags := 26, nameIndex := 1121, descriptorIndex := 1122, attributes := #[] }, { accessFlags := 25, nameIndex := 599, descriptorIndex := 600, attributes := #[] }, { accessFlags := 24, nameIndex := 1125, descriptorIndex := 18, attributes := #[] }, { accessFlags := 24, nameIndex := 1127, descriptorIndex := 18, attributes := #[] }])
  fields := #[{ name := "value", type := (.array .byte), accessFlags := 18, slot := 0, constantValue := 0 }, { name := "coder", type := .byte, accessFlags := 18, slot := 1, constantValue := 0 }, { name := "hash", type := .int, accessFlags := 2, slot := 2, constantValue := 0 }, { name := "hashIsZero", type := .boolean, accessFlags := 2, slot := 3, constantValue := 0 }, { name := "serialVersionUID", type := .long, accessFlags := 26, slot := 0, constantValue := 0 }, { name := "COMPACT_STRINGS", type := .boolean, accessFlags := 24, slot := 1, constantValue := 0 }, { name := "serialPersistentFields", type := (.array (.object "java/io/ObjectStreamField")), accessFlags := 26, slot := 2, constantValue := 0 }, { name := "REPL", type := .char, accessFlags := 26, slot := 3, constantValue := 0 }, { name := "CASE_INSENSITIVE_ORDER", type := (.object "java/util/Comparator"), accessFlags := 25, slot := 4, constantValue := 0 }, { name := "LATIN1", type := .byte, accessFlags := 24, slot := 5, constantValue := 0 }, { name := "UTF16", type := .byte, accessFlags := 24, slot := 6, constantValue := 0 }]
  methods := #[k8m0, k8m1, k8m2, k8m3, k8m4, k8m5, k8m6, k8m7]
  instanceTypes := #[(.array .byte), .byte, .int, .boolean]
  staticTypes := #[.long, .boolean, (.array (.object "java/io/ObjectStreamField")), .char, (.object "java/util/Comparator"), .byte, .byte]
  resolved := Array.replicate 1451 none
  statics := some 0 }

def pool9 : Array CpInfo := pool [(1, .class_ 2), (0, u "java/lang/String"), (1, .class_ 6), (1, u "java/lang/Object"), (0, u "<init>"), (0, u "()V"), (0, .methodref 1 10), (0, .nameAndType 11 12), (0, u "checkIndex"), (0, u "(II)V"), (1, .class_ 16), (1, u "java/lang/StringLatin1"), (36, u "([BI)C"), (36, u "canEncode"), (14, u "(C)Z"), (15, u "$assertionsDisabled"), (0, u "Z"), (98, .class_ 223), (1, u "java/lang/StringLatin1$LinesSpliterator"), (28, u "charAt"), (127, u "toBytes"), (1, u "(C)[B"), (7, .class_ 391), (0, u "java/lang/StringLatin1$CharsSpliterator")] 3

def k9m0 : Method := { name := "<init>", desc := "()V", sig := { parameters := [], returnType := none }, accessFlags := 0, code := none }
def k9c1 : Code := { maxStack := 2, maxLocals := 2, code := jdk_43_method_2_code, exceptionTable := #[], attributes := #[] }
def k9m1 : Method := { name := "charAt", desc := "([BI)C", sig := { parameters := [(.array .byte), .int], returnType := some .char }, accessFlags := 9, code := some k9c1 }
def k9c2 : Code := { maxStack := 2, maxLocals := 1, code := jdk_43_method_3_code, exceptionTable := #[], attributes := #[] }
def k9m2 : Method := { name := "canEncode", desc := "(C)Z", sig := { parameters := [.char], returnType := some .boolean }, accessFlags := 9, code := some k9c2 }
def k9c3 : Code := { maxStack := 4, maxLocals := 1, code := jdk_43_method_46_code, exceptionTable := #[], attributes := #[] }
def k9m3 : Method := { name := "toBytes", desc := "(C)[B", sig := { parameters := [.char], returnType := some (.array .byte) }, accessFlags := 9, code := some k9c3 }
/-- java/lang/StringLatin1 -/
def k9 : Class := { plain "java/lang/StringLatin1" (some 0) with
  accessFlags := 48
  interfaces := #[]
  cf := some (fileOf pool9 14 #[.nestMembers #[390, 221]] #[{ accessFlags := 0, nameIndex := 7, descriptorIndex := 8, attributes := #[] }, { accessFlags := 9, nameIndex := 252, descriptorIndex := 53, attributes := #[] }, { accessFlags := 9, nameIndex := 90, descriptorIndex := 105, attributes := #[] }, { accessFlags := 9, nameIndex := 380, descriptorIndex := 382, attributes := #[] }] 48 4 #[] #[{ accessFlags := 4120, nameIndex := 121, descriptorIndex := 122, attributes := #[] }])
  fields := #[{ name := "$assertionsDisabled", type := .boolean, accessFlags := 4120, slot := 0, constantValue := 0 }]
  methods := #[k9m0, k9m1, k9m2, k9m3]
  instanceTypes := #[]
  staticTypes := #[.boolean]
  resolved := Array.replicate 395 none
  statics := none }

def pool10 : Array CpInfo := pool [(2, .class_ 4), (1, u "java/lang/Object"), (0, u "<init>"), (0, u "()V"), (17, .class_ 26), (1, u "jdk/internal/util/Preconditions"), (6, u "checkIndex"), (21, .class_ 56), (0, u "jdk/internal/util/Preconditions$4"), (57, .class_ 115), (0, u "jdk/internal/util/Preconditions$1"), (7, u "SIOOBE_FORMATTER"), (0, u "Ljava/util/function/BiFunction;"), (0, .class_ 126), (0, u "jdk/internal/util/Preconditions$2"), (3, u "AIOOBE_FORMATTER"), (0, .class_ 132), (0, u "jdk/internal/util/Preconditions$3"), (3, u "IOOBE_FORMATTER"), (41, u "(IILjava/util/function/BiFunction;)I")] 15

def k10m0 : Method := { name := "<init>", desc := "()V", sig := { parameters := [], returnType := none }, accessFlags := 1, code := none }
def k10c1 : Code := { maxStack := 3, maxLocals := 3, code := jdk_41_method_11_code, exceptionTable := #[], attributes := #[] }
def k10m1 : Method := { name := "checkIndex", desc := "(IILjava/util/function/BiFunction;)I", sig := { parameters := [.int, .int, (.object "java/util/function/BiFunction")], returnType := some .int }, accessFlags := 9, code := some k10c1 }
/-- jdk/internal/util/Preconditions -/
def k10 : Class := { plain "jdk/internal/util/Preconditions" (some 0) with
  accessFlags := 33
  interfaces := #[]
  cf := some (fileOf pool10 24 #[.nestMembers #[55, 131, 125, 114]] #[{ accessFlags := 1, nameIndex := 5, descriptorIndex := 6, attributes := #[] }, { accessFlags := 9, nameIndex := 33, descriptorIndex := 178, attributes := #[] }] 33 2 #[] #[{ accessFlags := 25, nameIndex := 123, descriptorIndex := 124, attributes := #[] }, { accessFlags := 25, nameIndex := 130, descriptorIndex := 124, attributes := #[] }, { accessFlags := 25, nameIndex := 136, descriptorIndex := 124, attributes := #[] }])
  fields := #[{ name := "SIOOBE_FORMATTER", type := (.object "java/util/function/BiFunction"), accessFlags := 25, slot := 0, constantValue := 0 }, { name := "AIOOBE_FORMATTER", type := (.object "java/util/function/BiFunction"), accessFlags := 25, slot := 1, constantValue := 0 }, { name := "IOOBE_FORMATTER", type := (.object "java/util/function/BiFunction"), accessFlags := 25, slot := 2, constantValue := 0 }]
  methods := #[k10m0, k10m1]
  instanceTypes := #[]
  staticTypes := #[(.object "java/util/function/BiFunction"), (.object "java/util/function/BiFunction"), (.object "java/util/function/BiFunction")]
  resolved := Array.replicate 194 none
  statics := some 1 }

def pool11 : Array CpInfo := pool [(1, .class_ 2), (0, u "java/lang/Math"), (1, .class_ 6), (1, u "java/lang/Object"), (0, u "<init>"), (0, u "()V"), (89, .class_ 100), (1, u "java/lang/Math$RandomNumberGeneratorHolder"), (71, u "negativeZeroFloatBits"), (0, u "J"), (2, u "negativeZeroDoubleBits"), (21, u "max"), (46, u "$assertionsDisabled"), (0, u "Z"), (88, u "(II)I"), (2, u "twoToTheDoubleScaleDown"), (0, u "D"), (4, u "twoToTheDoubleScaleUp"), (9, u "E"), (3, u "PI"), (2, u "TAU"), (2, u "DEGREES_TO_RADIANS"), (0, u "RADIANS_TO_DEGREES")] 94

def k11m0 : Method := { name := "<init>", desc := "()V", sig := { parameters := [], returnType := none }, accessFlags := 2, code := none }
def k11c1 : Code := { maxStack := 2, maxLocals := 2, code := jdk_29_method_65_code, exceptionTable := #[], attributes := #[] }
def k11m1 : Method := { name := "max", desc := "(II)I", sig := { parameters := [.int, .int], returnType := some .int }, accessFlags := 9, code := some k11c1 }
/-- java/lang/Math -/
def k11 : Class := { plain "java/lang/Math" (some 0) with
  accessFlags := 49
  interfaces := #[]
  cf := some (fileOf pool11 1 #[.nestMembers #[98]] #[{ accessFlags := 2, nameIndex := 7, descriptorIndex := 8, attributes := #[] }, { accessFlags := 9, nameIndex := 198, descriptorIndex := 335, attributes := #[] }] 49 4 #[] #[{ accessFlags := 25, nameIndex := 354, descriptorIndex := 339, attributes := #[] }, { accessFlags := 25, nameIndex := 358, descriptorIndex := 339, attributes := #[] }, { accessFlags := 25, nameIndex := 361, descriptorIndex := 339, attributes := #[] }, { accessFlags := 26, nameIndex := 364, descriptorIndex := 339, attributes := #[] }, { accessFlags := 26, nameIndex := 365, descriptorIndex := 339, attributes := #[] }, { accessFlags := 26, nameIndex := 172, descriptorIndex := 173, attributes := #[] }, { accessFlags := 26, nameIndex := 176, descriptorIndex := 173, attributes := #[] }, { accessFlags := 8, nameIndex := 344, descriptorIndex := 339, attributes := #[] }, { accessFlags := 8, nameIndex := 338, descriptorIndex := 339, attributes := #[] }, { accessFlags := 4120, nameIndex := 245, descriptorIndex := 246, attributes := #[] }])
  fields := #[{ name := "E", type := .double, accessFlags := 25, slot := 0, constantValue := 0 }, { name := "PI", type := .double, accessFlags := 25, slot := 1, constantValue := 0 }, { name := "TAU", type := .double, accessFlags := 25, slot := 2, constantValue := 0 }, { name := "DEGREES_TO_RADIANS", type := .double, accessFlags := 26, slot := 3, constantValue := 0 }, { name := "RADIANS_TO_DEGREES", type := .double, accessFlags := 26, slot := 4, constantValue := 0 }, { name := "negativeZeroFloatBits", type := .long, accessFlags := 26, slot := 5, constantValue := 0 }, { name := "negativeZeroDoubleBits", type := .long, accessFlags := 26, slot := 6, constantValue := 0 }, { name := "twoToTheDoubleScaleUp", type := .double, accessFlags := 8, slot := 7, constantValue := 0 }, { name := "twoToTheDoubleScaleDown", type := .double, accessFlags := 8, slot := 8, constantValue := 0 }, { name := "$assertionsDisabled", type := .boolean, accessFlags := 4120, slot := 9, constantValue := 0 }]
  methods := #[k11m0, k11m1]
  instanceTypes := #[]
  staticTypes := #[.double, .double, .double, .double, .double, .long, .long, .double, .double, .boolean]
  resolved := Array.replicate 460 none
  statics := none }

def pool12 : Array CpInfo := pool [(9, u "<init>"), (6, .class_ 18), (1, u "java/lang/Object"), (0, u "()V"), (1, .class_ 23), (1, u "jdk/internal/util/ArraysSupport"), (0, u "LOG2_ARRAY_LONG_INDEX_SCALE"), (0, u "I"), (2, u "U"), (0, u "Ljdk/internal/misc/Unsafe;"), (8, u "BIG_ENDIAN"), (0, u "Z"), (8, u "LOG2_BYTE_BIT_SIZE"), (4, u "LOG2_ARRAY_INT_INDEX_SCALE"), (54, u "JLA"), (0, u "Ljdk/internal/access/JavaLangAccess;"), (11, u "LOG2_ARRAY_BOOLEAN_INDEX_SCALE"), (9, u "LOG2_ARRAY_BYTE_INDEX_SCALE"), (5, u "LOG2_ARRAY_CHAR_INDEX_SCALE"), (5, u "LOG2_ARRAY_SHORT_INDEX_SCALE"), (18, u "LOG2_ARRAY_FLOAT_INDEX_SCALE"), (24, u "LOG2_ARRAY_DOUBLE_INDEX_SCALE"), (89, u "T_BOOLEAN"), (2, u "T_CHAR"), (1, u "T_FLOAT"), (1, u "T_DOUBLE"), (1, u "T_BYTE"), (1, u "T_SHORT"), (1, u "T_INT"), (1, u "T_LONG"), (1, u "SOFT_MAX_ARRAY_LENGTH")] 83

def k12m0 : Method := { name := "<init>", desc := "()V", sig := { parameters := [], returnType := none }, accessFlags := 2, code := none }
/-- jdk/internal/util/ArraysSupport -/
def k12 : Class := { plain "jdk/internal/util/ArraysSupport" (some 0) with
  accessFlags := 33
  interfaces := #[]
  cf := some (fileOf pool12 21 #[] #[{ accessFlags := 2, nameIndex := 9, descriptorIndex := 19, attributes := #[] }] 33 16 #[] #[{ accessFlags := 24, nameIndex := 28, descriptorIndex := 29, attributes := #[] }, { accessFlags := 26, nameIndex := 38, descriptorIndex := 39, attributes := #[] }, { accessFlags := 25, nameIndex := 121, descriptorIndex := 25, attributes := #[] }, { accessFlags := 25, nameIndex := 131, descriptorIndex := 25, attributes := #[] }, { accessFlags := 25, nameIndex := 137, descriptorIndex := 25, attributes := #[] }, { accessFlags := 25, nameIndex := 143, descriptorIndex := 25, attributes := #[] }, { accessFlags := 25, nameIndex := 53, descriptorIndex := 25, attributes := #[] }, { accessFlags := 25, nameIndex := 24, descriptorIndex := 25, attributes := #[] }, { accessFlags := 25, nameIndex := 162, descriptorIndex := 25, attributes := #[] }, { accessFlags := 25, nameIndex := 187, descriptorIndex := 25, attributes := #[] }, { accessFlags := 26, nameIndex := 48, descriptorIndex := 25, attributes := #[] }, { accessFlags := 25, nameIndex := 277, descriptorIndex := 25, attributes := #[] }, { accessFlags := 25, nameIndex := 280, descriptorIndex := 25, attributes := #[] }, { accessFlags := 25, nameIndex := 282, descriptorIndex := 25, attributes := #[] }, { accessFlags := 25, nameIndex := 284, descriptorIndex := 25, attributes := #[] }, { accessFlags := 25, nameIndex := 286, descriptorIndex := 25, attributes := #[] }, { accessFlags := 25, nameIndex := 288, descriptorIndex := 25, attributes := #[] }, { accessFlags := 25, nameIndex := 290, descriptorIndex := 25, attributes := #[] }, { accessFlags := 25, nameIndex := 292, descriptorIndex := 25, attributes := #[] }, { accessFlags := 26, nameIndex := 108, descriptorIndex := 109, attributes := #[] }, { accessFlags := 25, nameIndex := 294, descriptorIndex := 25, attributes := #[] }])
  fields := #[{ name := "U", type := (.object "jdk/internal/misc/Unsafe"), accessFlags := 24, slot := 0, constantValue := 0 }, { name := "BIG_ENDIAN", type := .boolean, accessFlags := 26, slot := 1, constantValue := 0 }, { name := "LOG2_ARRAY_BOOLEAN_INDEX_SCALE", type := .int, accessFlags := 25, slot := 2, constantValue := 0 }, { name := "LOG2_ARRAY_BYTE_INDEX_SCALE", type := .int, accessFlags := 25, slot := 3, constantValue := 0 }, { name := "LOG2_ARRAY_CHAR_INDEX_SCALE", type := .int, accessFlags := 25, slot := 4, constantValue := 0 }, { name := "LOG2_ARRAY_SHORT_INDEX_SCALE", type := .int, accessFlags := 25, slot := 5, constantValue := 0 }, { name := "LOG2_ARRAY_INT_INDEX_SCALE", type := .int, accessFlags := 25, slot := 6, constantValue := 0 }, { name := "LOG2_ARRAY_LONG_INDEX_SCALE", type := .int, accessFlags := 25, slot := 7, constantValue := 0 }, { name := "LOG2_ARRAY_FLOAT_INDEX_SCALE", type := .int, accessFlags := 25, slot := 8, constantValue := 0 }, { name := "LOG2_ARRAY_DOUBLE_INDEX_SCALE", type := .int, accessFlags := 25, slot := 9, constantValue := 0 }, { name := "LOG2_BYTE_BIT_SIZE", type := .int, accessFlags := 26, slot := 10, constantValue := 0 }, { name := "T_BOOLEAN", type := .int, accessFlags := 25, slot := 11, constantValue := 0 }, { name := "T_CHAR", type := .int, accessFlags := 25, slot := 12, constantValue := 0 }, { name := "T_FLOAT", type := .int, accessFlags := 25, slot := 13, constantValue := 0 }, { name := "T_DOUBLE", type := .int, accessFlags := 25, slot := 14, constantValue := 0 }, { name := "T_BYTE", type := .int, accessFlags := 25, slot := 15, constantValue := 0 }, { name := "T_SHORT", type := .int, accessFlags := 25, slot := 16, constantValue := 0 }, { name := "T_INT", type := .int, accessFlags := 25, slot := 17, constantValue := 0 }, { name := "T_LONG", type := .int, accessFlags := 25, slot := 18, constantValue := 0 }, { name := "JLA", type := (.object "jdk/internal/access/JavaLangAccess"), accessFlags := 26, slot := 19, constantValue := 0 }, { name := "SOFT_MAX_ARRAY_LENGTH", type := .int, accessFlags := 25, slot := 20, constantValue := 0 }]
  methods := #[k12m0]
  instanceTypes := #[]
  staticTypes := #[(.object "jdk/internal/misc/Unsafe"), .boolean, .int, .int, .int, .int, .int, .int, .int, .int, .int, .int, .int, .int, .int, .int, .int, .int, .int, (.object "jdk/internal/access/JavaLangAccess"), .int]
  resolved := Array.replicate 378 none
  statics := none }

def pool13 : Array CpInfo := pool [(1, u "java/lang/Cloneable"), (0, .class_ 1), (0, u "java/lang/Object"), (0, .class_ 3)] 3

/-- java/lang/Cloneable -/
def k13 : Class := { plain "java/lang/Cloneable" (some 0) with
  accessFlags := 1537
  interfaces := #[]
  cf := some (fileOf pool13 2 #[] #[] 1537 4 #[] #[])
  fields := #[]
  methods := #[]
  instanceTypes := #[]
  staticTypes := #[]
  resolved := Array.replicate 8 none
  statics := none }

/-- the primitive byte -/
def k14 : Class := { plain "byte" none with kind := .primitive 'B', accessFlags := 0x411 }
/-- [B -/
def k15 : Class := { plain "[B" (some 0) with kind := .array 14 .byte, interfaces := #[13, 3], accessFlags := 1041 }

/-- the primitive int -/
def k16 : Class := { plain "int" none with kind := .primitive 'I', accessFlags := 0x411 }
/-- [I -/
def k17 : Class := { plain "[I" (some 0) with kind := .array 16 .int, interfaces := #[13, 3], accessFlags := 1041 }

def heap : Heap := #[{ cls := 8, slots := #[.long 0, .int 1, .null, .int 0, .null, .int 0, .int 0], vm := .statics 8 },
  { cls := 10, slots := #[.null, .null, .null], vm := .statics 10 }]
def classes : Array Class := #[k0, k1, k2, k3, k4, k5, k6, k7, k8, k9, k10, k11, k12, k13, k14, k15, k16, k17]
def interned : List (Array UInt16 × Addr) := []
def slotsUsed : Nat := 10
def theMethod : MethodId := ⟨1, 1⟩
def args0 : Array Value := #[.int 5, .int 6, .int 7]
def aboutOver (below : List Frame) : State where
  vm := { classes := classes, interned := interned.toArray }
  heap := heap
  slotsUsed := slotsUsed
  threads := #[{ frames := .invoking theMethod args0 :: below }]
def below0 : List Frame := [.native { method := ⟨0, 0⟩, args := #[] }]
def about1 : State := aboutOver below0
def p0 : Program := .bare "" "" ""
def e0 : Env := launch0.env 0 0 0
theorem w_frames : about1.frames = Frame.invoking theMethod args0 :: below0 := rfl
set_option maxRecDepth 65536 in
theorem w_args : argsFit about1.vm theMethod args0 = true := by decide +kernel
set_option maxRecDepth 65536 in
theorem w_heap : heapFits about1 = true := by decide +kernel
set_option maxRecDepth 65536 in
theorem w_runnable : about1.curStatus? = some .runnable := by decide +kernel
set_option maxRecDepth 65536 in
theorem w_alone : about1.alone = true := by decide +kernel
set_option maxRecDepth 65536 in
theorem w_named : about1.methodNamed? x = some theMethod := by decide +kernel
set_option maxRecDepth 65536 in
theorem w_hears : about1.hears theMethod below0 = true := by decide +kernel
set_option maxRecDepth 65536 in
theorem w_ripe : about1.ripe theMethod args0 below0 = true := by decide +kernel
theorem w_running : about1.status = .running := rfl
set_option maxRecDepth 65536 in
theorem w_room : about1.hasRoom e0.platform room_1 = true :=
  launch0.hasRoom_least _ room_1 (by decide +kernel) (by decide +kernel) (by decide +kernel) (by decide +kernel) (by decide +kernel) (by decide +kernel)
theorem allAtoms_all (ts : List Jvm.Cond) (a : Array Jvm.Value) (st : Jvm.State) : (allAtoms ts).before a st = ts.all (fun c => c.before a st) := by
  induction ts with
  | nil => rfl
  | cons c t ih =>
    show (Jvm.Cond.and c (allAtoms t)).before a st = _
    rw [Jvm.Cond.before_and, ih, List.all_cons]
def words1 : List Jvm.Cond := Jvm.Cond.code x code maxLocals ret :: tables_1
/-- a 'code' word, met by the world's own term for the bytes: nothing is compared byte by byte -/
theorem code_word {y : MethodName} {bytes : ByteArray} {mx : Nat} {rt : Option FieldType} {a : Array Value} {s : State} {m : MethodId} {meth : Method} {c : Code} (h1 : s.methodNamed? y = some m) (h2 : s.vm.method? m = some meth) (h3 : meth.code = some c) (h4 : c.code = bytes)
    (h5 : (c.maxLocals == mx && c.exceptionTable.isEmpty && decide (c.maxStack ≤ mostOperands) && decide (meth.sig.returnType = rt) && !meth.locks && decide (parseMethodDescriptor y.desc = some meth.sig)) = true) : (Jvm.Cond.code y bytes mx rt).before a s = true := by
  simp only [Bool.and_eq_true, beq_iff_eq, Bool.not_eq_true', decide_eq_true_eq] at h5
  obtain ⟨⟨⟨⟨⟨g1, g2⟩, g3⟩, g4⟩, g5⟩, g6⟩ := h5
  simp [Cond.before, Cond.holds, Cond.value, h1, h2, h3, h4, g1, g2, g3, g4, g5, g6]
def isCode : Jvm.Cond → Bool
  | .code _ _ _ _ => true
  | _ => false
theorem all_split {L : List Jvm.Cond} {P : Jvm.Cond → Bool} (h1 : L.all (fun c => isCode c || P c) = true) (h2 : ∀ c ∈ L.filter isCode, P c = true) : L.all P = true := by
  refine List.all_eq_true.mpr fun c hc => ?_
  have h := List.all_eq_true.mp h1 c hc
  rcases Bool.eq_false_or_eq_true (isCode c) with hi | hi
  · exact h2 c (List.mem_filter.mpr ⟨hc, hi⟩)
  · simpa [hi] using h
set_option maxRecDepth 65536 in
theorem w_c0 : (Jvm.Cond.code x code maxLocals ret).before args0 about1 = true := code_word (m := ⟨1, 1⟩) (meth := k1m1) (c := k1c1) (by decide +kernel) rfl rfl rfl (by decide +kernel)
set_option maxRecDepth 65536 in
theorem w_c1 : (Jvm.Cond.code ({ cls := "com/example/modest_tableau/modesttableau/document/BracketDepthAddPinLaw", name := "pick", desc := "(IIIIII)I" } : Jvm.MethodName) method_3_code (7 : Nat) (Option.some Jvm.ClassFile.FieldType.int)).before args0 about1 = true := code_word (m := ⟨1, 2⟩) (meth := k1m2) (c := k1c2) (by decide +kernel) rfl rfl rfl (by decide +kernel)
set_option maxRecDepth 65536 in
theorem w_c2 : (Jvm.Cond.code ({ cls := "java/lang/String", name := "valueOf", desc := "(C)Ljava/lang/String;" } : Jvm.MethodName) jdk_42_method_139_code (1 : Nat) (Option.some (Jvm.ClassFile.FieldType.object "java/lang/String"))).before args0 about1 = true := code_word (m := ⟨8, 3⟩) (meth := k8m3) (c := k8c3) (by decide +kernel) rfl rfl rfl (by decide +kernel)
set_option maxRecDepth 65536 in
theorem w_c3 : (Jvm.Cond.code ({ cls := "java/lang/StringLatin1", name := "canEncode", desc := "(C)Z" } : Jvm.MethodName) jdk_43_method_3_code (1 : Nat) (Option.some Jvm.ClassFile.FieldType.boolean)).before args0 about1 = true := code_word (m := ⟨9, 2⟩) (meth := k9m2) (c := k9c2) (by decide +kernel) rfl rfl rfl (by decide +kernel)
set_option maxRecDepth 65536 in
theorem w_c4 : (Jvm.Cond.code ({ cls := "java/lang/StringLatin1", name := "toBytes", desc := "(C)[B" } : Jvm.MethodName) jdk_43_method_46_code (1 : Nat) (Option.some (Jvm.ClassFile.FieldType.array Jvm.ClassFile.FieldType.byte))).before args0 about1 = true := code_word (m := ⟨9, 3⟩) (meth := k9m3) (c := k9c3) (by decide +kernel) rfl rfl rfl (by decide +kernel)
set_option maxRecDepth 65536 in
theorem w_c5 : (Jvm.Cond.code ({ cls := "java/lang/String", name := "<init>", desc := "([BB)V" } : Jvm.MethodName) jdk_42_method_151_code (3 : Nat) (Option.none : Option Jvm.ClassFile.FieldType)).before args0 about1 = true := code_word (m := ⟨8, 4⟩) (meth := k8m4) (c := k8c4) (by decide +kernel) rfl rfl rfl (by decide +kernel)
set_option maxRecDepth 65536 in
theorem w_c6 : (Jvm.Cond.code ({ cls := "java/lang/Object", name := "<init>", desc := "()V" } : Jvm.MethodName) object_method_1_code (1 : Nat) (Option.none : Option Jvm.ClassFile.FieldType)).before args0 about1 = true := code_word (m := ⟨0, 0⟩) (meth := k0m0) (c := k0c0) (by decide +kernel) rfl rfl rfl (by decide +kernel)
set_option maxRecDepth 65536 in
theorem w_c7 : (Jvm.Cond.code ({ cls := "com/example/modest_tableau/modesttableau/document/BracketDepth", name := "<init>", desc := "(Ljava/lang/String;Ljava/lang/String;)V" } : Jvm.MethodName) prog_18_method_1_code (4 : Nat) (Option.none : Option Jvm.ClassFile.FieldType)).before args0 about1 = true := code_word (m := ⟨2, 0⟩) (meth := k2m0) (c := k2c0) (by decide +kernel) rfl rfl rfl (by decide +kernel)
set_option maxRecDepth 65536 in
theorem w_c8 : (Jvm.Cond.code ({ cls := "java/lang/String", name := "length", desc := "()I" } : Jvm.MethodName) jdk_42_method_54_code (1 : Nat) (Option.some Jvm.ClassFile.FieldType.int)).before args0 about1 = true := code_word (m := ⟨8, 1⟩) (meth := k8m1) (c := k8c1) (by decide +kernel) rfl rfl rfl (by decide +kernel)
set_option maxRecDepth 65536 in
theorem w_c9 : (Jvm.Cond.code ({ cls := "java/lang/String", name := "coder", desc := "()B" } : Jvm.MethodName) jdk_42_method_152_code (1 : Nat) (Option.some Jvm.ClassFile.FieldType.byte)).before args0 about1 = true := code_word (m := ⟨8, 5⟩) (meth := k8m5) (c := k8c5) (by decide +kernel) rfl rfl rfl (by decide +kernel)
set_option maxRecDepth 65536 in
theorem w_c10 : (Jvm.Cond.code ({ cls := "java/lang/String", name := "charAt", desc := "(I)C" } : Jvm.MethodName) jdk_42_method_56_code (2 : Nat) (Option.some Jvm.ClassFile.FieldType.char)).before args0 about1 = true := code_word (m := ⟨8, 2⟩) (meth := k8m2) (c := k8c2) (by decide +kernel) rfl rfl rfl (by decide +kernel)
set_option maxRecDepth 65536 in
theorem w_c11 : (Jvm.Cond.code ({ cls := "java/lang/String", name := "isLatin1", desc := "()Z" } : Jvm.MethodName) jdk_42_method_154_code (1 : Nat) (Option.some Jvm.ClassFile.FieldType.boolean)).before args0 about1 = true := code_word (m := ⟨8, 6⟩) (meth := k8m6) (c := k8c6) (by decide +kernel) rfl rfl rfl (by decide +kernel)
set_option maxRecDepth 65536 in
theorem w_c12 : (Jvm.Cond.code ({ cls := "java/lang/StringLatin1", name := "charAt", desc := "([BI)C" } : Jvm.MethodName) jdk_43_method_2_code (2 : Nat) (Option.some Jvm.ClassFile.FieldType.char)).before args0 about1 = true := code_word (m := ⟨9, 1⟩) (meth := k9m1) (c := k9c1) (by decide +kernel) rfl rfl rfl (by decide +kernel)
set_option maxRecDepth 65536 in
theorem w_c13 : (Jvm.Cond.code ({ cls := "java/lang/String", name := "checkIndex", desc := "(II)V" } : Jvm.MethodName) jdk_42_method_155_code (2 : Nat) (Option.none : Option Jvm.ClassFile.FieldType)).before args0 about1 = true := code_word (m := ⟨8, 7⟩) (meth := k8m7) (c := k8c7) (by decide +kernel) rfl rfl rfl (by decide +kernel)
set_option maxRecDepth 65536 in
theorem w_c14 : (Jvm.Cond.code ({ cls := "jdk/internal/util/Preconditions", name := "checkIndex", desc := "(IILjava/util/function/BiFunction;)I" } : Jvm.MethodName) jdk_41_method_11_code (3 : Nat) (Option.some Jvm.ClassFile.FieldType.int)).before args0 about1 = true := code_word (m := ⟨10, 1⟩) (meth := k10m1) (c := k10c1) (by decide +kernel) rfl rfl rfl (by decide +kernel)
set_option maxRecDepth 65536 in
theorem w_c15 : (Jvm.Cond.code ({ cls := "com/example/modest_tableau/modesttableau/document/BracketDepth", name := "latin1", desc := "(C)I" } : Jvm.MethodName) prog_18_method_6_code (1 : Nat) (Option.some Jvm.ClassFile.FieldType.int)).before args0 about1 = true := code_word (m := ⟨2, 4⟩) (meth := k2m4) (c := k2c4) (by decide +kernel) rfl rfl rfl (by decide +kernel)
set_option maxRecDepth 65536 in
theorem w_c16 : (Jvm.Cond.code ({ cls := "com/example/modest_tableau/modesttableau/document/BracketDepth", name := "add", desc := "([BI)V" } : Jvm.MethodName) prog_18_method_3_code (4 : Nat) (Option.none : Option Jvm.ClassFile.FieldType)).before args0 about1 = true := code_word (m := ⟨2, 1⟩) (meth := k2m1) (c := k2c1) (by decide +kernel) rfl rfl rfl (by decide +kernel)
set_option maxRecDepth 65536 in
theorem w_c17 : (Jvm.Cond.code ({ cls := "com/example/modest_tableau/modesttableau/document/BracketDepth", name := "step", desc := "(B)V" } : Jvm.MethodName) prog_18_method_5_code (2 : Nat) (Option.none : Option Jvm.ClassFile.FieldType)).before args0 about1 = true := code_word (m := ⟨2, 3⟩) (meth := k2m3) (c := k2c3) (by decide +kernel) rfl rfl rfl (by decide +kernel)
set_option maxRecDepth 65536 in
theorem w_c18 : (Jvm.Cond.code ({ cls := "java/lang/Math", name := "max", desc := "(II)I" } : Jvm.MethodName) jdk_29_method_65_code (2 : Nat) (Option.some Jvm.ClassFile.FieldType.int)).before args0 about1 = true := code_word (m := ⟨11, 1⟩) (meth := k11m1) (c := k11c1) (by decide +kernel) rfl rfl rfl (by decide +kernel)
set_option maxRecDepth 65536 in
theorem w_c19 : (Jvm.Cond.code ({ cls := "com/example/modest_tableau/modesttableau/document/BracketDepth", name := "deepest", desc := "()I" } : Jvm.MethodName) prog_18_method_4_code (1 : Nat) (Option.some Jvm.ClassFile.FieldType.int)).before args0 about1 = true := code_word (m := ⟨2, 2⟩) (meth := k2m2) (c := k2c2) (by decide +kernel) rfl rfl rfl (by decide +kernel)
set_option maxRecDepth 65536 in
theorem w_c20 : (Jvm.Cond.code ({ cls := "com/example/modest_tableau/modesttableau/document/BracketDepthAddPinLaw", name := "feed", desc := "([IIZII)V" } : Jvm.MethodName) method_4_code (6 : Nat) (Option.none : Option Jvm.ClassFile.FieldType)).before args0 about1 = true := code_word (m := ⟨1, 3⟩) (meth := k1m3) (c := k1c3) (by decide +kernel) rfl rfl rfl (by decide +kernel)
def codes1 : List Jvm.Cond := [Jvm.Cond.code x code maxLocals ret, Jvm.Cond.code ({ cls := "com/example/modest_tableau/modesttableau/document/BracketDepthAddPinLaw", name := "pick", desc := "(IIIIII)I" } : Jvm.MethodName) method_3_code (7 : Nat) (Option.some Jvm.ClassFile.FieldType.int), Jvm.Cond.code ({ cls := "java/lang/String", name := "valueOf", desc := "(C)Ljava/lang/String;" } : Jvm.MethodName) jdk_42_method_139_code (1 : Nat) (Option.some (Jvm.ClassFile.FieldType.object "java/lang/String")), Jvm.Cond.code ({ cls := "java/lang/StringLatin1", name := "canEncode", desc := "(C)Z" } : Jvm.MethodName) jdk_43_method_3_code (1 : Nat) (Option.some Jvm.ClassFile.FieldType.boolean), Jvm.Cond.code ({ cls := "java/lang/StringLatin1", name := "toBytes", desc := "(C)[B" } : Jvm.MethodName) jdk_43_method_46_code (1 : Nat) (Option.some (Jvm.ClassFile.FieldType.array Jvm.ClassFile.FieldType.byte)), Jvm.Cond.code ({ cls := "java/lang/String", name := "<init>", desc := "([BB)V" } : Jvm.MethodName) jdk_42_method_151_code (3 : Nat) (Option.none : Option Jvm.ClassFile.FieldType), Jvm.Cond.code ({ cls := "java/lang/Object", name := "<init>", desc := "()V" } : Jvm.MethodName) object_method_1_code (1 : Nat) (Option.none : Option Jvm.ClassFile.FieldType), Jvm.Cond.code ({ cls := "com/example/modest_tableau/modesttableau/document/BracketDepth", name := "<init>", desc := "(Ljava/lang/String;Ljava/lang/String;)V" } : Jvm.MethodName) prog_18_method_1_code (4 : Nat) (Option.none : Option Jvm.ClassFile.FieldType), Jvm.Cond.code ({ cls := "java/lang/String", name := "length", desc := "()I" } : Jvm.MethodName) jdk_42_method_54_code (1 : Nat) (Option.some Jvm.ClassFile.FieldType.int), Jvm.Cond.code ({ cls := "java/lang/String", name := "coder", desc := "()B" } : Jvm.MethodName) jdk_42_method_152_code (1 : Nat) (Option.some Jvm.ClassFile.FieldType.byte), Jvm.Cond.code ({ cls := "java/lang/String", name := "charAt", desc := "(I)C" } : Jvm.MethodName) jdk_42_method_56_code (2 : Nat) (Option.some Jvm.ClassFile.FieldType.char), Jvm.Cond.code ({ cls := "java/lang/String", name := "isLatin1", desc := "()Z" } : Jvm.MethodName) jdk_42_method_154_code (1 : Nat) (Option.some Jvm.ClassFile.FieldType.boolean), Jvm.Cond.code ({ cls := "java/lang/StringLatin1", name := "charAt", desc := "([BI)C" } : Jvm.MethodName) jdk_43_method_2_code (2 : Nat) (Option.some Jvm.ClassFile.FieldType.char), Jvm.Cond.code ({ cls := "java/lang/String", name := "checkIndex", desc := "(II)V" } : Jvm.MethodName) jdk_42_method_155_code (2 : Nat) (Option.none : Option Jvm.ClassFile.FieldType), Jvm.Cond.code ({ cls := "jdk/internal/util/Preconditions", name := "checkIndex", desc := "(IILjava/util/function/BiFunction;)I" } : Jvm.MethodName) jdk_41_method_11_code (3 : Nat) (Option.some Jvm.ClassFile.FieldType.int), Jvm.Cond.code ({ cls := "com/example/modest_tableau/modesttableau/document/BracketDepth", name := "latin1", desc := "(C)I" } : Jvm.MethodName) prog_18_method_6_code (1 : Nat) (Option.some Jvm.ClassFile.FieldType.int), Jvm.Cond.code ({ cls := "com/example/modest_tableau/modesttableau/document/BracketDepth", name := "add", desc := "([BI)V" } : Jvm.MethodName) prog_18_method_3_code (4 : Nat) (Option.none : Option Jvm.ClassFile.FieldType), Jvm.Cond.code ({ cls := "com/example/modest_tableau/modesttableau/document/BracketDepth", name := "step", desc := "(B)V" } : Jvm.MethodName) prog_18_method_5_code (2 : Nat) (Option.none : Option Jvm.ClassFile.FieldType), Jvm.Cond.code ({ cls := "java/lang/Math", name := "max", desc := "(II)I" } : Jvm.MethodName) jdk_29_method_65_code (2 : Nat) (Option.some Jvm.ClassFile.FieldType.int), Jvm.Cond.code ({ cls := "com/example/modest_tableau/modesttableau/document/BracketDepth", name := "deepest", desc := "()I" } : Jvm.MethodName) prog_18_method_4_code (1 : Nat) (Option.some Jvm.ClassFile.FieldType.int), Jvm.Cond.code ({ cls := "com/example/modest_tableau/modesttableau/document/BracketDepthAddPinLaw", name := "feed", desc := "([IIZII)V" } : Jvm.MethodName) method_4_code (6 : Nat) (Option.none : Option Jvm.ClassFile.FieldType)]
set_option maxRecDepth 65536 in
theorem codes_eq : words1.filter isCode = codes1 := rfl
theorem w_codes : ∀ c ∈ words1.filter isCode, c.before args0 about1 = true := by
  rw [codes_eq]
  intro c hc
  simp only [codes1, List.mem_cons, List.not_mem_nil, or_false] at hc
  rcases hc with rfl | rfl | rfl | rfl | rfl | rfl | rfl | rfl | rfl | rfl | rfl | rfl | rfl | rfl | rfl | rfl | rfl | rfl | rfl | rfl | rfl
  · exact w_c0
  · exact w_c1
  · exact w_c2
  · exact w_c3
  · exact w_c4
  · exact w_c5
  · exact w_c6
  · exact w_c7
  · exact w_c8
  · exact w_c9
  · exact w_c10
  · exact w_c11
  · exact w_c12
  · exact w_c13
  · exact w_c14
  · exact w_c15
  · exact w_c16
  · exact w_c17
  · exact w_c18
  · exact w_c19
  · exact w_c20
set_option maxRecDepth 65536 in
theorem w_t1 : (words1.take 24).all (fun c => isCode c || c.before args0 about1) = true := by decide +kernel
set_option maxRecDepth 65536 in
theorem w_t2 : ((words1.drop 24).take 24).all (fun c => isCode c || c.before args0 about1) = true := by decide +kernel
set_option maxRecDepth 65536 in
theorem w_t3 : (((words1.drop 24).drop 24).take 24).all (fun c => isCode c || c.before args0 about1) = true := by decide +kernel
set_option maxRecDepth 65536 in
theorem w_t4 : ((((words1.drop 24).drop 24).drop 24).take 24).all (fun c => isCode c || c.before args0 about1) = true := by decide +kernel
set_option maxRecDepth 65536 in
theorem w_t5 : ((((words1.drop 24).drop 24).drop 24).drop 24).all (fun c => isCode c || c.before args0 about1) = true := by decide +kernel
theorem w_tables : (allAtoms (Jvm.Cond.code x code maxLocals ret :: tables_1)).before args0 about1 = true := by
  rw [allAtoms_all]
  show words1.all (fun c => c.before args0 about1) = true
  refine all_split ?_ w_codes
  rw [← List.take_append_drop 24 words1, List.all_append, w_t1, ← List.take_append_drop 24 (words1.drop 24), List.all_append, w_t2, ← List.take_append_drop 24 ((words1.drop 24).drop 24), List.all_append, w_t3, ← List.take_append_drop 24 (((words1.drop 24).drop 24).drop 24), List.all_append, w_t4, w_t5]
  rfl
set_option maxRecDepth 65536 in
theorem w_rest : rest_1_c.before args0 about1 = true := by decide +kernel
set_option maxRecDepth 65536 in
theorem w_case : (Jvm.Cond.and given_1 narrow_1).before args0 about1 = true := by decide +kernel
theorem w_applies : (headSpec (Jvm.Cond.code x code maxLocals ret :: tables_1) room_1).applies x e0.platform about1 = true :=
  (Spec.applies_iff w_frames).mpr ⟨w_running, w_runnable, w_alone, w_named, w_hears, w_ripe, w_room, w_tables⟩
theorem atStart : AtStart classFile x code maxLocals ret World_1 tables_1 room_1 Calls_1 rest_1 Pre_1 launch0 p0 e0 about1 theMethod args0 below0 :=
  ⟨lists_1, trivial, launch0.admits_env _ _ _, launch0.least_env, fairChoices_fair.cas, fairChoices_fair.clock, w_frames, w_args, w_heap, w_applies, trivial, w_rest, w_case⟩
end start1
theorem witness_1 : WitnessClaimed_1 := ⟨start1.p0, start1.e0, start1.about1, start1.theMethod, start1.args0, start1.below0, start1.atStart⟩
end Jvm.Pilot.@@N@@
