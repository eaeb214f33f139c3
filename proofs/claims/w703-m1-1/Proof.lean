import JvmDerived
import JvmDerived.Pilot.@@N@@Statement
import JvmDerived.Pilot.@@N@@Code
set_option linter.unusedVariables false
set_option linter.unusedSimpArgs false
namespace Jvm.Pilot.@@N@@
open Jvm Jvm.ClassFile Sem Op Lib Jvm.Free Jvm.Stand Jvm.LawKit Jvm.RoadKit Bundle Jvm.Pilot.@@N@@.Jvm.D
section Own
variable {p : Program} {l : Launch} {e : Env} {R : Room} {s : State} {m : MethodId} {args : Array Value} {below : List Frame} {meth : Method} {c : Code} {T T' : State} {locs : List Loc} {cells slots : Nat} {G : Outcome → State → Prop} {g g' : JFrame} {Z : State} {h h' h0 : Heap} {a b : Addr} {n0 : Nat} {Q : Option Value → Heap → List Loc → Prop} {CC SS : Nat}
/-- the run from T, with the frame g on top, ends as G wants it -/
def Win (p : Program) (e : Env) (below : List Frame) (G : Outcome → State → Prop) (T : State) (g : JFrame) : Prop :=
  ∃ s₂ o, Steps p.tables e below (T.setTop g) s₂ ∧ s₂.status = .running ∧ Ended s₂ below o ∧ G o s₂
theorem Win.st (W : Win p e below G T' g') (st : ∀ t, Steps p.tables e below (T'.setTop g') t → Steps p.tables e below (T.setTop g) t) : Win p e below G T g := by
  obtain ⟨s2, o, h1, h2⟩ := W
  exact ⟨s2, o, st _ h1, h2⟩
theorem Win.tr (W : Win p e below G T' g') (st : Steps p.tables e below (T.setTop g) (T'.setTop g')) : Win p e below G T g := by
  obtain ⟨s2, o, h1, h2⟩ := W
  exact ⟨s2, o, st.trans h1, h2⟩
/-- how a body ends: it returned v, Q of the value and the heap, the frame -/
def Ends (s : State) (Q : Option Value → Heap → List Loc → Prop) (CC SS : Nat) (o : Outcome) (U : State) : Prop := ∃ v L, o = .returned v ∧ Q v U.heap L ∧ FrameEnd s o U L CC SS
theorem Win.ret (X : Stand p l e R s m args below meth c T locs cells slots) (hx : p.tables.exec = Jvm.exec) (hlk : meth.locks = false) (eT : T.heap = h) {pc : Nat} {Ls : Array Slot} {w : Value} {t : FieldType} {i : Instr} {rest : List Value} (hret : meth.sig.returnType = some t) (hn : narrow t w = w)
    (hi : (i = .ireturn ∧ (t = .int ∨ t = .boolean ∨ t = .byte ∨ t = .char ∨ t = .short) ∧ ∃ z, w = .int z) ∨ (i = .lreturn ∧ t = .long ∧ ∃ z, w = .long z) ∨ (i = .dreturn ∧ t = .double ∧ ∃ z, w = .double z) ∨ (i = .freturn ∧ t = .float ∧ ∃ z, w = .float z) ∨ (i = .areturn ∧ t.isReference = true ∧ w.isRef = true))
    (hd : decode c.code pc = .ok (i, 1)) (hc : cells ≤ CC) (hs : slots ≤ SS) (hQ : Q (some w) h locs) : Win p e below (Ends s Q CC SS) T (mkF m pc Ls (w :: rest)) := by
  obtain ⟨fs, hr, hrun, hended, hW, hsame⟩ := X.leave (v := some w) (fun h => by rw [hret] at h; cases h) hlk
  subst eT
  exact ⟨_, _, retOut X hx hret hn hi hd hr, hrun, hended, _, _, rfl, hQ, ⟨_, rfl⟩, hW, hsame.mono hc hs⟩
theorem Win.retN (X : Stand p l e R s m args below meth c T locs cells slots) (hx : p.tables.exec = Jvm.exec) (hlk : meth.locks = false) (eT : T.heap = h) {pc : Nat} {Ls : Array Slot} {z z' : Int32} {t : FieldType} {rest : List Value} (hret : meth.sig.returnType = some t) (ht : t = .boolean ∨ t = .byte ∨ t = .char ∨ t = .short)
    (hd : decode c.code pc = .ok (.ireturn, 1)) (hc : cells ≤ CC) (hs : slots ≤ SS) (hz : nar t z = z') (hQ : Q (some (.int z')) h locs) : Win p e below (Ends s Q CC SS) T (mkF m pc Ls (.int z :: rest)) := by
  subst hz
  obtain ⟨fs, hr, hrun, hended, hW, hsame⟩ := X.leave (v := some (.int (nar t z))) (fun h => by rw [hret] at h; cases h) hlk
  subst eT
  exact ⟨_, _, Jvm.RoadKit.retN X hx hret ht hd hr, hrun, hended, _, _, rfl, hQ, ⟨_, rfl⟩, hW, hsame.mono hc hs⟩
theorem Win.retV (X : Stand p l e R s m args below meth c T locs cells slots) (hx : p.tables.exec = Jvm.exec) (hlk : meth.locks = false) (eT : T.heap = h) {pc : Nat} {Ls : Array Slot} (hret : meth.sig.returnType = none)
    (hd : decode c.code pc = .ok (.return_, 1)) (hc : cells ≤ CC) (hs : slots ≤ SS) (hQ : Q none h locs) : Win p e below (Ends s Q CC SS) T (mkF m pc Ls []) := by
  obtain ⟨fs, hr, hrun, hended, hW, hsame⟩ := X.leave (v := none) (fun _ => rfl) hlk
  subst eT
  exact ⟨_, _, X.returnOut hx hret hd hr, hrun, hended, _, _, rfl, hQ, ⟨_, rfl⟩, hW, hsame.mono hc hs⟩
theorem own_hide {k : Nat} {sl : Nat} (X : Stand p l e R s m args below meth c T (locs ++ [⟨a, sl⟩]) cells slots) (N : Fr k locs) (q : k ≤ a) : ∃ L, Stand p l e R s m args below meth c T L cells slots ∧ Fr k L := ⟨_, X, Fr.snoc X N q⟩
theorem own_kext (E : Ext h h') : Keep h h' [] := (Keep.refl h []).ext E
theorem own_new {x : Addr} (g : b = h.size) (q : x < h.size) : x ≠ b := Nat.ne_of_lt (g ▸ q)
theorem own_newle (Z0 : n0 ≤ h.size) (g : b = h.size) : n0 ≤ b := g ▸ Z0
theorem own_len {k : ClassId} {ty : FieldType} {z : Int32} {vs : List Value} {dv : Value} (V : Arv Z h a k ty z vs dv) : ¬ z < 0 := by obtain ⟨_, _, _, _, q, _⟩ := V; exact q
theorem own_alen {k : ClassId} {ty : FieldType} {z : Int32} {vs : List Value} {dv : Value} (X : Stand p l e R s m args below meth c T locs cells slots) (hx : p.tables.exec = Jvm.exec) (hZ : Z.Warmed39 s.vm) (eT : T.heap = h) (V : Arv Z h a k ty z vs dv) {rest : List Value} (hg : g.method = m) (hs : g.stack = .ref a :: rest) (hd : decode c.code g.pc = .ok (.arraylength, 1)) :
    ∀ target, Steps p.tables e below (T.setTop { g with pc := g.pc + 1, stack := .int z :: rest }) target → Steps p.tables e below (T.setTop g) target := by
  obtain ⟨cl, A, -, S, q, -, -⟩ := V
  intro t k
  refine X.arraylength hx (by rw [eT]; exact A.1) (State.isArrayOf_alike hZ.alike A.2.1) hg hs hd _ ?_
  rw [len_of S q]; exact k
theorem own_iald {k : ClassId} {z : Int32} {vs : List Value} {dv : Value} (X : Stand p l e R s m args below meth c T locs cells slots) (hx : p.tables.exec = Jvm.exec) (hZ : Z.Warmed39 s.vm) (eT : T.heap = h) (V : Arv Z h a k .int z vs dv) {j : Int32} {v : Value} (h1 : ¬ j < 0) (h2 : j < z) (hv : vs.getD j.toNatClampNeg dv = v) {rest : List Value} (hg : g.method = m) (hs : g.stack = .int j :: .ref a :: rest) (hd : decode c.code g.pc = .ok (.iaload, 1)) :
    ∀ target, Steps p.tables e below (T.setTop { g with pc := g.pc + 1, stack := v :: rest }) target → Steps p.tables e below (T.setTop g) target := by
  obtain ⟨cl, A, -, S, q, H, -⟩ := V
  have hin := inb_of S ⟨h1, h2⟩
  exact X.iaload hx (by rw [eT]; exact A.1) (State.isArrayOf_alike hZ.alike A.2.1) A.2.2 hin (H.at hin hv) hg hs hd
theorem own_bald {k : ClassId} {z : Int32} {vs : List Value} {dv : Value} (X : Stand p l e R s m args below meth c T locs cells slots) (hx : p.tables.exec = Jvm.exec) (hZ : Z.Warmed39 s.vm) (eT : T.heap = h) (V : Arv Z h a k .byte z vs dv) {j : Int32} {v : Value} (h1 : ¬ j < 0) (h2 : j < z) (hv : vs.getD j.toNatClampNeg dv = v) {rest : List Value} (hg : g.method = m) (hs : g.stack = .int j :: .ref a :: rest) (hd : decode c.code g.pc = .ok (.baload, 1)) :
    ∀ target, Steps p.tables e below (T.setTop { g with pc := g.pc + 1, stack := v :: rest }) target → Steps p.tables e below (T.setTop g) target := by
  obtain ⟨cl, A, -, S, q, H, -⟩ := V
  have hin := inb_of S ⟨h1, h2⟩
  exact X.baloadBytes hx (by rw [eT]; exact A.1) (State.isArrayOf_alike hZ.alike A.2.1) A.2.2 hin (H.at hin hv) hg hs hd
theorem own_cald {k : ClassId} {z : Int32} {vs : List Value} {dv : Value} (X : Stand p l e R s m args below meth c T locs cells slots) (hx : p.tables.exec = Jvm.exec) (hZ : Z.Warmed39 s.vm) (eT : T.heap = h) (V : Arv Z h a k .char z vs dv) {j : Int32} {v : Value} (h1 : ¬ j < 0) (h2 : j < z) (hv : vs.getD j.toNatClampNeg dv = v) {rest : List Value} (hg : g.method = m) (hs : g.stack = .int j :: .ref a :: rest) (hd : decode c.code g.pc = .ok (.caload, 1)) :
    ∀ target, Steps p.tables e below (T.setTop { g with pc := g.pc + 1, stack := v :: rest }) target → Steps p.tables e below (T.setTop g) target := by
  obtain ⟨cl, A, -, S, q, H, -⟩ := V
  have hin := inb_of S ⟨h1, h2⟩
  exact X.caload hx (by rw [eT]; exact A.1) (State.isArrayOf_alike hZ.alike A.2.1) A.2.2 hin (H.at hin hv) hg hs hd
theorem own_cast {k : ClassId} {z : Int32} {vs : List Value} {dv : Value} (X : Stand p l e R s m args below meth c T locs cells slots) (hx : p.tables.exec = Jvm.exec) (hZ : Z.Warmed39 s.vm) (eT : T.heap = h) (N : Fr n0 locs) (ge : n0 ≤ a) (V : Arv Z h a k .char z vs dv) {j x : Int32} (h1 : ¬ j < 0) (h2 : j < z) {i : Nat} (hj : j.toNatClampNeg = i) (hi : i < vs.length) {rest : List Value} (hg : g.method = m) (hs : g.stack = .int x :: .int j :: .ref a :: rest) (hd : decode c.code g.pc = .ok (.castore, 1)) :
    ∃ T' h' L, Stand p l e R s m args below meth c T' L cells slots ∧ Fr n0 L ∧ T'.heap = h' ∧ Keep h h' [a] ∧ Arv Z h' a k .char z (vs.set i (.int (x.toUInt32.toUInt16.toUInt32.toInt32))) dv ∧ ∀ target, Steps p.tables e below (T'.setTop { g with pc := g.pc + 1, stack := rest }) target → Steps p.tables e below (T.setTop g) target := by
  obtain ⟨cl, A, q1, S, q, H, Gf⟩ := V
  have hin := inb_of S ⟨h1, h2⟩
  obtain ⟨T', h', X', e', W, st⟩ := stC X hx hZ eT A hin hg hs hd
  exact ⟨T', h', _, X', Fr.snoc X' N ge, e', Keep.of_wr W, Arv.set A q1 S q H Gf (fits_nar_char x) W i hj hi, st⟩
theorem own_iast {k : ClassId} {z : Int32} {vs : List Value} {dv : Value} (X : Stand p l e R s m args below meth c T locs cells slots) (hx : p.tables.exec = Jvm.exec) (hZ : Z.Warmed39 s.vm) (eT : T.heap = h) (N : Fr n0 locs) (ge : n0 ≤ a) (V : Arv Z h a k .int z vs dv) {j x : Int32} (h1 : ¬ j < 0) (h2 : j < z) {i : Nat} (hj : j.toNatClampNeg = i) (hi : i < vs.length) {rest : List Value} (hg : g.method = m) (hs : g.stack = .int x :: .int j :: .ref a :: rest) (hd : decode c.code g.pc = .ok (.iastore, 1)) :
    ∃ T' h' L, Stand p l e R s m args below meth c T' L cells slots ∧ Fr n0 L ∧ T'.heap = h' ∧ Keep h h' [a] ∧ Arv Z h' a k .int z (vs.set i (.int x)) dv ∧ ∀ target, Steps p.tables e below (T'.setTop { g with pc := g.pc + 1, stack := rest }) target → Steps p.tables e below (T.setTop g) target := by
  obtain ⟨cl, A, q1, S, q, H, Gf⟩ := V
  have hin := inb_of S ⟨h1, h2⟩
  obtain ⟨T', h', X', e', W, st⟩ := stI X hx hZ eT A hin hg hs hd
  exact ⟨T', h', _, X', Fr.snoc X' N ge, e', Keep.of_wr W, Arv.set A q1 S q H Gf rfl W i hj hi, st⟩
theorem own_bast {k : ClassId} {z : Int32} {vs : List Value} {dv : Value} (X : Stand p l e R s m args below meth c T locs cells slots) (hx : p.tables.exec = Jvm.exec) (hZ : Z.Warmed39 s.vm) (eT : T.heap = h) (N : Fr n0 locs) (ge : n0 ≤ a) (V : Arv Z h a k .byte z vs dv) {j x : Int32} (h1 : ¬ j < 0) (h2 : j < z) {i : Nat} (hj : j.toNatClampNeg = i) (hi : i < vs.length) {rest : List Value} (hg : g.method = m) (hs : g.stack = .int x :: .int j :: .ref a :: rest) (hd : decode c.code g.pc = .ok (.bastore, 1)) :
    ∃ T' h' L, Stand p l e R s m args below meth c T' L cells slots ∧ Fr n0 L ∧ T'.heap = h' ∧ Keep h h' [a] ∧ Arv Z h' a k .byte z (vs.set i (.int x.toInt8.toInt32)) dv ∧ ∀ target, Steps p.tables e below (T'.setTop { g with pc := g.pc + 1, stack := rest }) target → Steps p.tables e below (T.setTop g) target := by
  obtain ⟨cl, A, q1, S, q, H, Gf⟩ := V
  have hin := inb_of S ⟨h1, h2⟩
  obtain ⟨T', h', X', e', W, st⟩ := stB X hx hZ eT A hin hg hs hd
  exact ⟨T', h', _, X', Fr.snoc X' N ge, e', Keep.of_wr W, Arv.set A q1 S q H Gf (fits_nar_byte x) W i hj hi, st⟩
/-- how a body ends that may have interned a String -/
def EndsW (s : State) (Q : Option Value → Heap → List Loc → Prop) (CC SS : Nat) (o : Outcome) (U : State) : Prop := ∃ v L, o = .returned v ∧ Q v U.heap L ∧ ReturnedEndW s o U L CC SS
theorem Win.retNW {vm₁ : Vm} {k1 : Nat} (X : Stand p l e R (s.setVm vm₁) m args below meth c T locs cells slots) (hS : s.Since vm₁ k1) (hk : k1 ≤ h.size) (hx : p.tables.exec = Jvm.exec) (hlk : meth.locks = false) (eT : T.heap = h) {pc : Nat} {Ls : Array Slot} {z z' : Int32} {t : FieldType} {rest : List Value} (hret : meth.sig.returnType = some t) (ht : t = .boolean ∨ t = .byte ∨ t = .char ∨ t = .short)
    (hd : decode c.code pc = .ok (.ireturn, 1)) (hc : cells ≤ CC) (hs : slots ≤ SS) (hz : nar t z = z') (hQ : Q (some (.int z')) h locs) : Win p e below (EndsW s Q CC SS) T (mkF m pc Ls (.int z :: rest)) := by
  subst hz
  subst eT
  obtain ⟨fs, hr, hrun, hended, h1, h2, h3, h4⟩ := X.leaveW hS hk (v := some (.int (nar t z))) (fun h => by rw [hret] at h; cases h) hlk
  exact ⟨_, _, Jvm.RoadKit.retN X hx hret ht hd hr, hrun, hended, _, _, rfl, hQ, h1, h2, h3, h4.mono hc hs⟩
theorem Win.retVW {vm₁ : Vm} {k1 : Nat} (X : Stand p l e R (s.setVm vm₁) m args below meth c T locs cells slots) (hS : s.Since vm₁ k1) (hk : k1 ≤ h.size) (hx : p.tables.exec = Jvm.exec) (hlk : meth.locks = false) (eT : T.heap = h) {pc : Nat} {Ls : Array Slot} (hret : meth.sig.returnType = none)
    (hd : decode c.code pc = .ok (.return_, 1)) (hc : cells ≤ CC) (hs : slots ≤ SS) (hQ : Q none h locs) : Win p e below (EndsW s Q CC SS) T (mkF m pc Ls []) := by
  subst eT
  obtain ⟨fs, hr, hrun, hended, h1, h2, h3, h4⟩ := X.leaveW hS hk (v := none) (fun _ => rfl) hlk
  exact ⟨_, _, X.returnOut hx hret hd hr, hrun, hended, _, _, rfl, hQ, h1, h2, h3, h4.mono hc hs⟩
theorem Win.retRW {vm₁ : Vm} {k1 : Nat} (X : Stand p l e R (s.setVm vm₁) m args below meth c T locs cells slots) (hS : s.Since vm₁ k1) (hk : k1 ≤ h.size) (hx : p.tables.exec = Jvm.exec) (hlk : meth.locks = false) (eT : T.heap = h) {pc : Nat} {Ls : Array Slot} {w : Value} {t : FieldType} {rest : List Value} (hret : meth.sig.returnType = some t) (ht : t.isReference = true) (hw : w.isRef = true) (hn : narrow t w = w)
    (hd : decode c.code pc = .ok (.areturn, 1)) (hc : cells ≤ CC) (hs : slots ≤ SS) (hQ : Q (some w) h locs) : Win p e below (EndsW s Q CC SS) T (mkF m pc Ls (w :: rest)) := by
  subst eT
  obtain ⟨fs, hr, hrun, hended, h1, h2, h3, h4⟩ := X.leaveW hS hk (v := some w) (fun h => by rw [hret] at h; cases h) hlk
  exact ⟨_, _, retOut X hx hret hn (Or.inr (Or.inr (Or.inr (Or.inr ⟨rfl, ht, hw⟩)))) hd hr, hrun, hended, _, _, rfl, hQ, h1, h2, h3, h4.mono hc hs⟩
/-- RoadKit's backOfSH for a callee that asks the invariant and doesn't give it back -/
theorem own_backOfSP {a0 : Array Value} {EL : List (String × Nat)} {vm0 : Vm} {y : MethodName} {bytes : ByteArray} {maxL : Nat} {ret : Option FieldType} {rm : Room} {len W : Nat} {as' : Array Value} {Q : Option Value → Heap → List Loc → Prop}
    (hM : MetFree l y (head1 [Jvm.Cond.code y bytes maxL ret] rm) (fun a U => a = as' ∧ Z.Warmed39 U.vm ∧ U.heap = h ∧ CHv Z EL U.vm h) (fun _ _ _ _ _ => True) (fun _ U o U' => ∃ v L, o = .returned v ∧ Q v U'.heap L ∧ ReturnedEndW U o U' L rm.cells rm.slots))
    (hZ : Z.Warmed39 vm0) (wc : (Jvm.Cond.code y bytes maxL ret).before a0 Z = true) (wz : (Jvm.Cond.initialized y.cls).before a0 Z = true) (hf : rm.frames + 1 ≤ R.frames) (hl : W + (maxL + 11) + rm.locals ≤ R.locals) (hEL : EW Z a0 EL) (H : CHv Z EL vm0 h) :
    BackS l R p e below (s.setVm vm0) args y len W (fun A a => a = as' ∧ A.U.heap = h ∧ A.cells + rm.cells ≤ R.cells ∧ A.slots + rm.slots ≤ R.slots)
      (fun A _ v B => ∃ L, Q v B.U.heap L ∧ B.locs = A.locs ++ L ∧ B.cells = A.cells + rm.cells ∧ B.slots = A.slots + rm.slots) :=
  BackS.of_freeW (bytes := bytes) (maxL := maxL) (ret := ret) (E := fun _ _ o t L k n => k = rm.cells ∧ n = rm.slots ∧ ∃ v, o = .returned v ∧ Q v t.heap L) hM hf hl
    (fun m meth c A a Y hp => have hU : Z.Warmed39 A.U.vm := wtrans (s := s.setVm vm0) hZ Y.warmed
      ⟨by show (Jvm.Cond.and _ .tt).before a A.U = true; rw [Cond.before_and, mv hU wc]; rfl, mv hU wc, mv hU wz, hp.2.2.1, hp.2.2.2⟩)
    (fun m meth c A a g mk Y hp => ⟨hp.1, wtrans (s := s.setVm vm0) hZ Y.warmed, hp.2.1, (CHv.at Y hZ hEL H).1⟩) (fun _ _ _ _ _ _ _ _ _ => trivial)
    (fun _ _ _ _ ⟨v, L, h1, h2, h3⟩ => ⟨L, _, _, h3, rfl, rfl, v, h1, h2⟩)
    (fun m meth c A a g mk v t L k n Y hp _ _ ⟨e1, e2, v', e3, e4⟩ => by cases e3; subst e1 e2; exact ⟨L, e4, rfl, rfl, rfl⟩)
theorem own_sta_keep {C n d : String} {v : Value} (F : Sta Z h C n d v) (K : Keep h h' []) : Sta Z h' C n d v := by
  obtain ⟨cf, i, k, f, st, cell, h1, h2, h3, h4, h5, r⟩ := F
  exact ⟨cf, i, k, f, st, cell, h1, h2, h3, h4, K.2.1 _ _ h5 nin0, r⟩
theorem own_nar_ref {u : Value} {C : String} (hu : u.isRef = true) : narrow (.object C) u = u := by rcases ref_cases hu with rfl | ⟨z, rfl⟩ <;> rfl
theorem own_fit_ref {u : Value} {C : String} (hu : u.isRef = true) : fits (.object C) u = true := by rcases ref_cases hu with rfl | ⟨z, rfl⟩ <;> rfl
theorem own_no {a0 : Array Value} {C K O : String} {n : Nat} (w : (Jvm.Cond.superclass C O).before a0 Z = true) (wo : (Jvm.Cond.noSuperclass O).before a0 Z = true) (wk : (Jvm.Cond.instantiable K n).before a0 Z = true) (h1 : C ≠ K) (h2 : O ≠ K) : ∃ c t, Z.vm.findClass C = some c ∧ Z.vm.findClass K = some t ∧ Z.vm.assignable c t = false := by
  obtain ⟨o, ko, o1, o2, o3, -, -⟩ := Cond.noSuperclass_spec wo
  obtain ⟨t, kt, t1, t2, t3, t4, -⟩ := Cond.instantiable_spec wk
  obtain ⟨c, c0⟩ := found_sup w
  obtain ⟨p, k, kp, p1, p2, p3, p4, p5, -, p7⟩ := Cond.superclass_spec c0 w
  cases o1.symm.trans p1
  have ne1 := ids_ne c0 t1 h1
  have ne2 := ids_ne o1 t1 h2
  simp only [Bool.or_eq_false_iff] at t4
  have n3 : ∀ fuel, Z.vm.isSubclassAux fuel c t = false := fun fuel => by
    match fuel with
    | 0 => rfl
    | 1 => simp [Vm.isSubclassAux, ne1, p2, p4]
    | f + 2 => simp [Vm.isSubclassAux, ne1, ne2, p2, p4, o2, o3]
  refine ⟨c, t, c0, t1, ?_⟩
  show Z.vm.assignableAux (255 + 1) c t = false
  simp [Vm.assignableAux, ne1, p2, t2, p5, t3, t4.1, Vm.isSubclass, n3]
theorem own_selp {y : MethodName} {n : Nat} (hi : (Jvm.Cond.instantiable y.cls n).before args s = true) (hp : s.PrivateAt y) (hm : (Jvm.Cond.instanceMethod y).before args s = true) (hy : y.cls ≠ "java/lang/invoke/MethodHandle" ∧ y.cls ≠ "java/lang/invoke/VarHandle") : (Jvm.Cond.selects y.cls y y).before args s = true := by
  obtain ⟨c, k, h1, h2, h3, h4, -⟩ := Cond.instantiable_spec hi
  exact selects_self_of_private h1 h2 (by simp only [Bool.or_eq_false_iff] at h4; exact h4.1) hp hm hy
end Own

theorem own_b8 (y : Int32) : (y.toInt8.toInt32).toInt8.toInt32 = y.toInt8.toInt32 := by simp
theorem own_bits (b : BitVec 8) : ((Int8.ofBitVec b).toInt32 &&& (32 : Int32) = 0 ∧ ((((Int8.ofBitVec b).toInt32 &&& (255 : Int32)).toUInt32 >>> ((5 : Int32) &&& 31).toUInt32).toInt32 &&& (1 : Int32)) = 0) ∨ ((Int8.ofBitVec b).toInt32 &&& (32 : Int32) = 32 ∧ ((((Int8.ofBitVec b).toInt32 &&& (255 : Int32)).toUInt32 >>> ((5 : Int32) &&& 31).toUInt32).toInt32 &&& (1 : Int32)) = 1) := by
  revert b; decide +kernel
def own_id (cc tg : Int32) : Int32 := ((((128 : Int32) ||| cc) ||| tg).toInt8.toInt32 &&& (255 : Int32))
theorem own_tags (i : Fin 31) : ((((own_id 0 (Int32.ofNat i.val)).toUInt32 >>> ((6 : Int32) &&& 31).toUInt32).toInt32) = 2 ∧ ((((own_id 0 (Int32.ofNat i.val)).toUInt32 >>> ((5 : Int32) &&& 31).toUInt32).toInt32) &&& (1 : Int32)) = 0 ∧ (own_id 0 (Int32.ofNat i.val) &&& (31 : Int32)) = Int32.ofNat i.val) ∧
    ((((own_id 32 (Int32.ofNat i.val)).toUInt32 >>> ((6 : Int32) &&& 31).toUInt32).toInt32) = 2 ∧ ((((own_id 32 (Int32.ofNat i.val)).toUInt32 >>> ((5 : Int32) &&& 31).toUInt32).toInt32) &&& (1 : Int32)) = 1 ∧ (own_id 32 (Int32.ofNat i.val) &&& (31 : Int32)) = Int32.ofNat i.val) := by
  revert i; decide +kernel
theorem own_small {x : Int32} (h0 : 0 ≤ x.toInt) (h1 : x.toInt < 31) : ∃ i : Fin 31, x = Int32.ofNat i.val := by
  have z : (0 : Int32).toInt = 0 := by decide
  have q := nat_of (j := x) (fun q => by have := Int32.lt_iff_toInt_lt.mp q; omega)
  refine ⟨⟨x.toNatClampNeg, by omega⟩, Int32.toInt_inj.mp ?_⟩
  show x.toInt = (Int32.ofNat x.toNatClampNeg).toInt
  rw [Int32.toInt_ofNat_of_lt (by omega)]
  exact q
theorem own_der (b0 tag : Int32) (hb : b0.toInt8.toInt32 = b0) (h0 : 0 ≤ tag.toInt) (h1 : tag.toInt < 31) : (((own_id (b0 &&& (32 : Int32)) tag).toUInt32 >>> ((6 : Int32) &&& 31).toUInt32).toInt32) = (2 : Int32) ∧
    ((((own_id (b0 &&& (32 : Int32)) tag).toUInt32 >>> ((5 : Int32) &&& 31).toUInt32).toInt32) &&& (1 : Int32)) = ((((b0 &&& (255 : Int32)).toUInt32 >>> ((5 : Int32) &&& 31).toUInt32).toInt32) &&& (1 : Int32)) ∧ (own_id (b0 &&& (32 : Int32)) tag &&& (31 : Int32)) = tag := by
  obtain ⟨i, rfl⟩ := own_small h0 h1
  have q := own_bits b0.toInt8.toBitVec
  rw [show Int8.ofBitVec b0.toInt8.toBitVec = b0.toInt8 from rfl, hb] at q
  have r := own_tags i
  rcases q with ⟨q1, q2⟩ | ⟨q1, q2⟩
  · rw [q1, q2]; exact r.1
  · rw [q1, q2]; exact r.2

theorem d_prog_5_method_5_0 : decode prog_5_method_5_code 0 = .ok (.aload_n 1, 1) := by decide +kernel
theorem d_prog_5_method_5_1 : decode prog_5_method_5_code 1 = .ok (.invokevirtual 17, 3) := by decide +kernel
theorem d_prog_5_method_5_4 : decode prog_5_method_5_code 4 = .ok (.checkcast 18, 3) := by decide +kernel
theorem d_prog_5_method_5_7 : decode prog_5_method_5_code 7 = .ok (.astore_n 2, 1) := by decide +kernel
theorem d_prog_5_method_5_8 : decode prog_5_method_5_code 8 = .ok (.aload_n 2, 1) := by decide +kernel
theorem d_prog_5_method_5_9 : decode prog_5_method_5_code 9 = .ok (.iconst 0, 1) := by decide +kernel
theorem d_prog_5_method_5_10 : decode prog_5_method_5_code 10 = .ok (.sipush 128, 3) := by decide +kernel
theorem d_prog_5_method_5_13 : decode prog_5_method_5_code 13 = .ok (.aload_n 1, 1) := by decide +kernel
theorem d_prog_5_method_5_14 : decode prog_5_method_5_code 14 = .ok (.iconst 0, 1) := by decide +kernel
theorem d_prog_5_method_5_15 : decode prog_5_method_5_code 15 = .ok (.baload, 1) := by decide +kernel
theorem d_prog_5_method_5_16 : decode prog_5_method_5_code 16 = .ok (.bipush 32, 2) := by decide +kernel
theorem d_prog_5_method_5_18 : decode prog_5_method_5_code 18 = .ok (.iand, 1) := by decide +kernel
theorem d_prog_5_method_5_19 : decode prog_5_method_5_code 19 = .ok (.ior, 1) := by decide +kernel
theorem d_prog_5_method_5_20 : decode prog_5_method_5_code 20 = .ok (.iload_n 0, 1) := by decide +kernel
theorem d_prog_5_method_5_21 : decode prog_5_method_5_code 21 = .ok (.ior, 1) := by decide +kernel
theorem d_prog_5_method_5_22 : decode prog_5_method_5_code 22 = .ok (.i2b, 1) := by decide +kernel
theorem d_prog_5_method_5_23 : decode prog_5_method_5_code 23 = .ok (.bastore, 1) := by decide +kernel
theorem d_prog_5_method_5_24 : decode prog_5_method_5_code 24 = .ok (.aload_n 2, 1) := by decide +kernel
theorem d_prog_5_method_5_25 : decode prog_5_method_5_code 25 = .ok (.areturn, 1) := by decide +kernel
theorem pn_0 : plainName "com/example/foldkey/foldkey/encoding/Der" = true := by first | (simp [plainName, overriddenIn]; done) | decide +kernel
theorem ef_impl (mt : MethodId) (tag : Int32) (a : Addr) : entryFrame mt #[(.int tag), (.ref a)] 3 = mkF mt 0 #[.val (.int tag), .val (.ref a), .unset] [] := by first | (simp [entryFrame, mkF, argsToLocals, Value.category]; done) | rfl
def Q_impl (Z : State) (tag : Int32) (a : Addr) (k : ClassId) (z : Int32) (vs : List Value) (bv : Int32) (h0 : Heap) (n0 : Nat) (v : Option Value) (h : Heap) (L : List Loc) : Prop := ∃ r : Addr, v = some (.ref r) ∧ Fr n0 L ∧ Keep h0 h [] ∧ n0 ≤ r ∧ a ≠ r ∧ Arv Z h r k .byte z (vs.set 0 (.int ((((128 : Int32) ||| (bv &&& (32 : Int32))) ||| tag).toInt8.toInt32))) (.int (0 : Int32))
set_option maxRecDepth 65536 in
set_option maxHeartbeats 40000000 in
theorem rm_impl (l : Launch) (Z : State) (a0 : Array Value) (hw : ∀ d ∈ tables_1, d.before a0 Z = true) (ws : List Jvm.Cond) (tag : Int32) (a : Addr) (k : ClassId) (z : Int32) (vs : List Value) (bv : Int32) (h0 : Heap) (n0 : Nat) (Z0 : n0 ≤ h0.size) (V : Arv Z h0 a k .byte z vs (.int (0 : Int32))) (Ex : Exa Z h0 a "[B") (hz : (0 : Int32) < z) (hcap : z.toNatClampNeg ≤ 4) (hl : 0 < vs.length) (hv : vs.getD 0 (.int (0 : Int32)) = .int bv) :
    MetFree l (⟨"com/example/foldkey/foldkey/encoding/Der", "implicit", "(I[B)[B"⟩ : MethodName) (head1 (Jvm.Cond.code (⟨"com/example/foldkey/foldkey/encoding/Der", "implicit", "(I[B)[B"⟩ : MethodName) prog_5_method_5_code 3 (some (.array .byte)) :: ws) ({ frames := 1, cells := 1, slots := 4, locals := 14 } : Room)) (fun aa UU => aa = #[(.int tag), (.ref a)] ∧ Z.Warmed39 UU.vm ∧ UU.heap = h0) (fun _ _ _ _ _ => True) (fun _ UU oo UU' => ∃ vv LL, oo = .returned vv ∧ Q_impl Z tag a k z vs bv h0 n0 vv UU'.heap LL ∧ FrameEnd UU oo UU' LL ({ frames := 1, cells := 1, slots := 4, locals := 14 } : Room).cells ({ frames := 1, cells := 1, slots := 4, locals := 14 } : Room).slots) := by
  refine MetFree.of_bodySF (plainFor_of_name pn_0) hisR ?_
  intro p e s mt args below meth cd s₁ Bd hml0 hP hK
  obtain ⟨hA, hZ, hh⟩ := hP
  have hx := Bd.exec
  have hby := Bd.bytes
  have hml : cd.maxLocals = 3 := hml0
  have hown : s.vm.findClass "com/example/foldkey/foldkey/encoding/Der" = some mt.cls := findClass_of_methodNamed Bd.named
  have hnm := (name_of_methodNamed Bd.named Bd.method).1
  have hlk : meth.locks = false := BodyLoose.notSynchronized Bd
  have hrt := Bd.returns
  have X0 : Stand p l e ({ frames := 1, cells := 1, slots := 4, locals := 14 } : Room) s mt args below meth cd s₁ [] 0 0 := Stand.of_body Bd
  have e0 : s₁.heap = h0 := by rw [← hh, Bd.state]; rfl
  have N0 := Fr.nil n0
  show Win p e below (Ends s (Q_impl Z tag a k z vs bv h0 n0) ({ frames := 1, cells := 1, slots := 4, locals := 14 } : Room).cells ({ frames := 1, cells := 1, slots := 4, locals := 14 } : Room).slots) s₁ (entryFrame mt args 3)
  rw [hA, ef_impl]
  refine Win.st ?_ (fun tq kq => XS.aloadN X0.here hx rfl (hb hby d_prog_5_method_5_0) rfl rfl kq)
  show Win p e below _ s₁ (mkF mt 1 #[.val (.int tag), .val (.ref a), .unset] [(.ref a)])
  obtain ⟨T11, h11, X11, e11, E11, A11, Ey11, st11⟩ := cloneH X0 hx hZ hown (hw _ (List.mem_of_getElem? (i := 6) rfl)) (hw _ (List.mem_of_getElem? (i := 7) rfl)) (hw _ (List.mem_of_getElem? (i := 11) rfl)) (hw _ (List.mem_of_getElem? (i := 9) rfl)) (hw _ (List.mem_of_getElem? (i := 10) rfl)) (hw _ (List.mem_of_getElem? (i := 12) rfl)) e0 (Arv.arh V) Ex (g := (mkF mt 1 #[.val (.int tag), .val (.ref a), .unset] [(.ref a)])) rfl (by rw [hml]; rfl) rfl (hb hby d_prog_5_method_5_1) (by decide) (W := 0) (cap := 4) (by show 2 * 0 + _ ≤ _; exact Nat.le_of_eq rfl) (by decide) hcap (by decide) (by decide)
  obtain ⟨b11, gq11⟩ : ∃ z, z = h0.size := ⟨_, rfl⟩
  rw [← gq11] at A11 Ey11 st11
  have ne12 : a ≠ b11 := own_new gq11 V.lt
  have g13 : n0 ≤ b11 := own_newle Z0 gq11
  have z14 : h0.size ≤ b11 := own_newle (Keep.refl h0 []).1 gq11
  have ke11 := own_kext E11
  replace X11 : Stand p l e _ s mt args below meth cd T11 _ 1 4 := X11
  have f15_10 := V.keep ke11 nin0
  have f15_11 := Ex.keep ke11
  have Z16 : n0 ≤ h11.size := Nat.le_trans Z0 ke11.1
  have K17 : Keep h0 h11 [] := Keep.trans (Keep.refl h0 []) ke11 all0
  have V11 : Arv Z h11 b11 k .byte z vs (.int (0 : Int32)) := A11
  refine Win.st ?_ st11
  show Win p e below _ T11 (mkF mt 4 #[.val (.int tag), .val (.ref a), .unset] [(.ref b11)])
  obtain ⟨T18, X18, e18, st18⟩ := castY X11 hx hZ hown (hw _ (List.mem_of_getElem? (i := 13) rfl)) e11 (Ins.self Ey11) (g := (mkF mt 4 #[.val (.int tag), .val (.ref a), .unset] [(.ref b11)])) rfl rfl (hb hby d_prog_5_method_5_4)
  refine Win.st ?_ st18
  show Win p e below _ T18 (mkF mt 7 #[.val (.int tag), .val (.ref a), .unset] [(.ref b11)])
  refine Win.st ?_ (fun tq kq => XS.astoreN X18.here hx rfl (hb hby d_prog_5_method_5_7) rfl rfl (l' := #[.val (.int tag), .val (.ref a), .val (.ref b11)]) rfl kq)
  show Win p e below _ T18 (mkF mt 8 #[.val (.int tag), .val (.ref a), .val (.ref b11)] [])
  refine Win.st ?_ (fun tq kq => XS.aloadN X18.here hx rfl (hb hby d_prog_5_method_5_8) rfl rfl kq)
  show Win p e below _ T18 (mkF mt 9 #[.val (.int tag), .val (.ref a), .val (.ref b11)] [(.ref b11)])
  refine Win.st ?_ (fun tq kq => XS.iconst X18.here hx rfl (hb hby d_prog_5_method_5_9) kq)
  show Win p e below _ T18 (mkF mt 10 #[.val (.int tag), .val (.ref a), .val (.ref b11)] [(.int (0 : Int32)), (.ref b11)])
  refine Win.st ?_ (fun tq kq => XS.sipush X18.here hx rfl (hb hby d_prog_5_method_5_10) kq)
  show Win p e below _ T18 (mkF mt 13 #[.val (.int tag), .val (.ref a), .val (.ref b11)] [(.int (128 : Int32)), (.int (0 : Int32)), (.ref b11)])
  refine Win.st ?_ (fun tq kq => XS.aloadN X18.here hx rfl (hb hby d_prog_5_method_5_13) rfl rfl kq)
  show Win p e below _ T18 (mkF mt 14 #[.val (.int tag), .val (.ref a), .val (.ref b11)] [(.ref a), (.int (128 : Int32)), (.int (0 : Int32)), (.ref b11)])
  refine Win.st ?_ (fun tq kq => XS.iconst X18.here hx rfl (hb hby d_prog_5_method_5_14) kq)
  show Win p e below _ T18 (mkF mt 15 #[.val (.int tag), .val (.ref a), .val (.ref b11)] [(.int (0 : Int32)), (.ref a), (.int (128 : Int32)), (.int (0 : Int32)), (.ref b11)])
  refine Win.st ?_ (own_bald (g := (mkF mt 15 #[.val (.int tag), .val (.ref a), .val (.ref b11)] [(.int (0 : Int32)), (.ref a), (.int (128 : Int32)), (.int (0 : Int32)), (.ref b11)])) X18 hx hZ e18 f15_10 (j := (0 : Int32)) (v := (.int bv)) (by decide) hz hv rfl rfl (hb hby d_prog_5_method_5_15))
  show Win p e below _ T18 (mkF mt 16 #[.val (.int tag), .val (.ref a), .val (.ref b11)] [(.int bv), (.int (128 : Int32)), (.int (0 : Int32)), (.ref b11)])
  refine Win.st ?_ (fun tq kq => XS.bipush X18.here hx rfl (hb hby d_prog_5_method_5_16) kq)
  show Win p e below _ T18 (mkF mt 18 #[.val (.int tag), .val (.ref a), .val (.ref b11)] [(.int (32 : Int32)), (.int bv), (.int (128 : Int32)), (.int (0 : Int32)), (.ref b11)])
  refine Win.st ?_ (fun tq kq => XS.iand X18.here hx rfl (hb hby d_prog_5_method_5_18) rfl kq)
  show Win p e below _ T18 (mkF mt 19 #[.val (.int tag), .val (.ref a), .val (.ref b11)] [(.int (bv &&& (32 : Int32))), (.int (128 : Int32)), (.int (0 : Int32)), (.ref b11)])
  refine Win.st ?_ (fun tq kq => XS.ior X18.here hx rfl (hb hby d_prog_5_method_5_19) rfl kq)
  show Win p e below _ T18 (mkF mt 20 #[.val (.int tag), .val (.ref a), .val (.ref b11)] [(.int ((128 : Int32) ||| (bv &&& (32 : Int32)))), (.int (0 : Int32)), (.ref b11)])
  refine Win.st ?_ (fun tq kq => XS.iloadN X18.here hx rfl (hb hby d_prog_5_method_5_20) rfl kq)
  show Win p e below _ T18 (mkF mt 21 #[.val (.int tag), .val (.ref a), .val (.ref b11)] [(.int tag), (.int ((128 : Int32) ||| (bv &&& (32 : Int32)))), (.int (0 : Int32)), (.ref b11)])
  refine Win.st ?_ (fun tq kq => XS.ior X18.here hx rfl (hb hby d_prog_5_method_5_21) rfl kq)
  show Win p e below _ T18 (mkF mt 22 #[.val (.int tag), .val (.ref a), .val (.ref b11)] [(.int (((128 : Int32) ||| (bv &&& (32 : Int32))) ||| tag)), (.int (0 : Int32)), (.ref b11)])
  refine Win.st ?_ (fun tq kq => XS.i2b X18.here hx rfl (hb hby d_prog_5_method_5_22) rfl kq)
  show Win p e below _ T18 (mkF mt 23 #[.val (.int tag), .val (.ref a), .val (.ref b11)] [(.int ((((128 : Int32) ||| (bv &&& (32 : Int32))) ||| tag).toInt8.toInt32)), (.int (0 : Int32)), (.ref b11)])
  obtain ⟨T19, h19, L19, X19, N19, e19, kp19, V19, st19⟩ := own_bast (g := (mkF mt 23 #[.val (.int tag), .val (.ref a), .val (.ref b11)] [(.int ((((128 : Int32) ||| (bv &&& (32 : Int32))) ||| tag).toInt8.toInt32)), (.int (0 : Int32)), (.ref b11)])) X18 hx hZ e18 N0 g13 V11 (j := (0 : Int32)) (by decide) hz (i := 0) rfl hl rfl rfl (hb hby d_prog_5_method_5_23)
  rw [own_b8] at V19
  have f20_48 := f15_10.keep kp19 (ninS ne12 nin0)
  have f20_49 := f15_11.keep kp19
  have f20_50 := Ey11.keep kp19
  have Z21 : n0 ≤ h19.size := Nat.le_trans Z16 kp19.1
  have K22 : Keep h0 h19 [] := Keep.trans K17 kp19 (allS (Or.inr z14) all0)
  refine Win.st ?_ st19
  show Win p e below _ T19 (mkF mt 24 #[.val (.int tag), .val (.ref a), .val (.ref b11)] [])
  refine Win.st ?_ (fun tq kq => XS.aloadN X19.here hx rfl (hb hby d_prog_5_method_5_24) rfl rfl kq)
  show Win p e below _ T19 (mkF mt 25 #[.val (.int tag), .val (.ref a), .val (.ref b11)] [(.ref b11)])
  exact Win.ret X19 hx hlk e19 hrt rfl (Or.inr (Or.inr (Or.inr (Or.inr ⟨rfl, rfl, rfl⟩)))) (hb hby d_prog_5_method_5_25) (by decide) (by decide) ⟨_, rfl, N19, K22, g13, ne12, V19⟩
theorem pd_0 : parseMethodDescriptor "(I[B)[B" = some ⟨[.int, (.array .byte)], some (.array .byte)⟩ := by decide +kernel
theorem pn_1 : plainName "com/example/foldkey/foldkey/encoding/DerImplicitPinLaw" = true := by first | (simp [plainName, overriddenIn]; done) | decide +kernel
theorem ef_law (mt : MethodId) (t_ : Int32) (first : Int32) (rest_ : Int32) (sel : Int32) : entryFrame mt #[(.int t_), (.int first), (.int rest_), (.int sel)] maxLocals = mkF mt 0 #[.val (.int t_), .val (.int first), .val (.int rest_), .val (.int sel), .unset, .unset, .unset, .unset, .unset, .unset, .unset, .unset, .unset, .unset, .unset, .unset, .unset] [] := by first | (simp [entryFrame, mkF, argsToLocals, Value.category, maxLocals]; done) | rfl
def Q_law (Z : State) (t_ : Int32) (first : Int32) (rest_ : Int32) (sel : Int32) (h0 : Heap) (n0 : Nat) (v : Option Value) (h : Heap) (L : List Loc) : Prop := v = some (.int 1) ∧ Fr n0 L
set_option maxRecDepth 65536 in
set_option maxHeartbeats 40000000 in
theorem rm_law (l : Launch) (Z : State) (a0 : Array Value) (hw : ∀ d ∈ tables_1, d.before a0 Z = true) (ws : List Jvm.Cond) (t_ : Int32) (first : Int32) (rest_ : Int32) (sel : Int32) (h0 : Heap) (n0 : Nat) (Z0 : n0 ≤ h0.size) :
    MetFree l x (head1 (Jvm.Cond.code x code maxLocals ret :: ws) room_1) (fun aa UU => aa = #[(.int t_), (.int first), (.int rest_), (.int sel)] ∧ Z.Warmed39 UU.vm ∧ UU.heap = h0) (fun _ _ _ _ _ => True) (fun _ UU oo UU' => ∃ vv LL, oo = .returned vv ∧ Q_law Z t_ first rest_ sel h0 n0 vv UU'.heap LL ∧ FrameEnd UU oo UU' LL 2 8) := by
  refine MetFree.of_bodySF (plainFor_of_name pn_1) hisR ?_
  intro p e s mt args below meth cd s₁ Bd hml0 hP hK
  obtain ⟨hA, hZ, hh⟩ := hP
  have hx := Bd.exec
  have hby := Bd.bytes
  have hml : cd.maxLocals = 17 := hml0
  have hown : s.vm.findClass "com/example/foldkey/foldkey/encoding/DerImplicitPinLaw" = some mt.cls := findClass_of_methodNamed Bd.named
  have hnm := (name_of_methodNamed Bd.named Bd.method).1
  have hlk : meth.locks = false := BodyLoose.notSynchronized Bd
  have hrt := Bd.returns
  have X0 : Stand p l e room_1 s mt args below meth cd s₁ [] 0 0 := Stand.of_body Bd
  have e0 : s₁.heap = h0 := by rw [← hh, Bd.state]; rfl
  have N0 := Fr.nil n0
  show Win p e below (Ends s (Q_law Z t_ first rest_ sel h0 n0) 2 8) s₁ (entryFrame mt args maxLocals)
  rw [hA, ef_law]
  refine Win.st ?_ (fun tq kq => XS.iloadN X0.here hx rfl (hb hby at_0) rfl kq)
  show Win p e below _ s₁ (mkF mt 1 #[.val (.int t_), .val (.int first), .val (.int rest_), .val (.int sel), .unset, .unset, .unset, .unset, .unset, .unset, .unset, .unset, .unset, .unset, .unset, .unset, .unset] [(.int t_)])
  refine Win.st ?_ (X0.ldcInt hx hown (mvT hZ (hw _ (List.mem_of_getElem? (i := 0) rfl))) (g := (mkF mt 1 #[.val (.int t_), .val (.int first), .val (.int rest_), .val (.int sel), .unset, .unset, .unset, .unset, .unset, .unset, .unset, .unset, .unset, .unset, .unset, .unset, .unset] [(.int t_)])) rfl (hb hby at_1))
  show Win p e below _ s₁ (mkF mt 3 #[.val (.int t_), .val (.int first), .val (.int rest_), .val (.int sel), .unset, .unset, .unset, .unset, .unset, .unset, .unset, .unset, .unset, .unset, .unset, .unset, .unset] [(.int (2147483647 : Int32)), (.int t_)])
  refine Win.st ?_ (fun tq kq => XS.iand X0.here hx rfl (hb hby at_3) rfl kq)
  show Win p e below _ s₁ (mkF mt 4 #[.val (.int t_), .val (.int first), .val (.int rest_), .val (.int sel), .unset, .unset, .unset, .unset, .unset, .unset, .unset, .unset, .unset, .unset, .unset, .unset, .unset] [(.int (t_ &&& (2147483647 : Int32)))])
  refine Win.st ?_ (fun tq kq => XS.bipush X0.here hx rfl (hb hby at_4) kq)
  show Win p e below _ s₁ (mkF mt 6 #[.val (.int t_), .val (.int first), .val (.int rest_), .val (.int sel), .unset, .unset, .unset, .unset, .unset, .unset, .unset, .unset, .unset, .unset, .unset, .unset, .unset] [(.int (31 : Int32)), (.int (t_ &&& (2147483647 : Int32)))])
  refine Win.st ?_ (fun tq kq => iremM X0 hx rfl (hb hby at_6) rfl (by decide) kq)
  show Win p e below _ s₁ (mkF mt 7 #[.val (.int t_), .val (.int first), .val (.int rest_), .val (.int sel), .unset, .unset, .unset, .unset, .unset, .unset, .unset, .unset, .unset, .unset, .unset, .unset, .unset] [(.int ((t_ &&& (2147483647 : Int32)) % (31 : Int32)))])
  obtain ⟨tag, htag⟩ : ∃ z, z = ((t_ &&& (2147483647 : Int32)) % (31 : Int32)) := ⟨_, rfl⟩
  have ht : 0 ≤ tag.toInt ∧ tag.toInt < 31 := by
    have q := c_mask t_ 2147483647 31 (by decide) (by decide)
    have r := (c_irem (t_ &&& 2147483647) 31 31 (by decide)).1 (by omega)
    rw [← htag] at r; omega
  rw [← htag]
  show Win p e below _ s₁ (mkF mt 7 #[.val (.int t_), .val (.int first), .val (.int rest_), .val (.int sel), .unset, .unset, .unset, .unset, .unset, .unset, .unset, .unset, .unset, .unset, .unset, .unset, .unset] [(.int tag)])
  refine Win.st ?_ (fun tq kq => XS.istore X0.here hx rfl (hb hby at_7) rfl (l' := #[.val (.int t_), .val (.int first), .val (.int rest_), .val (.int sel), .val (.int tag), .unset, .unset, .unset, .unset, .unset, .unset, .unset, .unset, .unset, .unset, .unset, .unset]) rfl kq)
  show Win p e below _ s₁ (mkF mt 9 #[.val (.int t_), .val (.int first), .val (.int rest_), .val (.int sel), .val (.int tag), .unset, .unset, .unset, .unset, .unset, .unset, .unset, .unset, .unset, .unset, .unset, .unset] [])
  refine Win.st ?_ (fun tq kq => XS.iloadN X0.here hx rfl (hb hby at_9) rfl kq)
  show Win p e below _ s₁ (mkF mt 10 #[.val (.int t_), .val (.int first), .val (.int rest_), .val (.int sel), .val (.int tag), .unset, .unset, .unset, .unset, .unset, .unset, .unset, .unset, .unset, .unset, .unset, .unset] [(.int first)])
  refine Win.st ?_ (fun tq kq => XS.i2b X0.here hx rfl (hb hby at_10) rfl kq)
  show Win p e below _ s₁ (mkF mt 11 #[.val (.int t_), .val (.int first), .val (.int rest_), .val (.int sel), .val (.int tag), .unset, .unset, .unset, .unset, .unset, .unset, .unset, .unset, .unset, .unset, .unset, .unset] [(.int (first.toInt8.toInt32))])
  obtain ⟨b0, hb0⟩ : ∃ z, z = (first.toInt8.toInt32) := ⟨_, rfl⟩
  have hc0 : b0.toInt8.toInt32 = b0 := by rw [hb0]; exact own_b8 _
  rw [← hb0]
  show Win p e below _ s₁ (mkF mt 11 #[.val (.int t_), .val (.int first), .val (.int rest_), .val (.int sel), .val (.int tag), .unset, .unset, .unset, .unset, .unset, .unset, .unset, .unset, .unset, .unset, .unset, .unset] [(.int b0)])
  refine Win.st ?_ (fun tq kq => XS.istore X0.here hx rfl (hb hby at_11) rfl (l' := #[.val (.int t_), .val (.int first), .val (.int rest_), .val (.int sel), .val (.int tag), .val (.int b0), .unset, .unset, .unset, .unset, .unset, .unset, .unset, .unset, .unset, .unset, .unset]) rfl kq)
  show Win p e below _ s₁ (mkF mt 13 #[.val (.int t_), .val (.int first), .val (.int rest_), .val (.int sel), .val (.int tag), .val (.int b0), .unset, .unset, .unset, .unset, .unset, .unset, .unset, .unset, .unset, .unset, .unset] [])
  refine Win.st ?_ (fun tq kq => XS.iloadN X0.here hx rfl (hb hby at_13) rfl kq)
  show Win p e below _ s₁ (mkF mt 14 #[.val (.int t_), .val (.int first), .val (.int rest_), .val (.int sel), .val (.int tag), .val (.int b0), .unset, .unset, .unset, .unset, .unset, .unset, .unset, .unset, .unset, .unset, .unset] [(.int rest_)])
  refine Win.st ?_ (fun tq kq => XS.i2b X0.here hx rfl (hb hby at_14) rfl kq)
  show Win p e below _ s₁ (mkF mt 15 #[.val (.int t_), .val (.int first), .val (.int rest_), .val (.int sel), .val (.int tag), .val (.int b0), .unset, .unset, .unset, .unset, .unset, .unset, .unset, .unset, .unset, .unset, .unset] [(.int (rest_.toInt8.toInt32))])
  obtain ⟨b1, hb1⟩ : ∃ z, z = (rest_.toInt8.toInt32) := ⟨_, rfl⟩
  have hc1 : b1.toInt8.toInt32 = b1 := by rw [hb1]; exact own_b8 _
  rw [← hb1]
  show Win p e below _ s₁ (mkF mt 15 #[.val (.int t_), .val (.int first), .val (.int rest_), .val (.int sel), .val (.int tag), .val (.int b0), .unset, .unset, .unset, .unset, .unset, .unset, .unset, .unset, .unset, .unset, .unset] [(.int b1)])
  refine Win.st ?_ (fun tq kq => XS.istore X0.here hx rfl (hb hby at_15) rfl (l' := #[.val (.int t_), .val (.int first), .val (.int rest_), .val (.int sel), .val (.int tag), .val (.int b0), .val (.int b1), .unset, .unset, .unset, .unset, .unset, .unset, .unset, .unset, .unset, .unset]) rfl kq)
  show Win p e below _ s₁ (mkF mt 17 #[.val (.int t_), .val (.int first), .val (.int rest_), .val (.int sel), .val (.int tag), .val (.int b0), .val (.int b1), .unset, .unset, .unset, .unset, .unset, .unset, .unset, .unset, .unset, .unset] [])
  refine Win.st ?_ (fun tq kq => XS.iloadN X0.here hx rfl (hb hby at_17) rfl kq)
  show Win p e below _ s₁ (mkF mt 18 #[.val (.int t_), .val (.int first), .val (.int rest_), .val (.int sel), .val (.int tag), .val (.int b0), .val (.int b1), .unset, .unset, .unset, .unset, .unset, .unset, .unset, .unset, .unset, .unset] [(.int rest_)])
  refine Win.st ?_ (fun tq kq => XS.bipush X0.here hx rfl (hb hby at_18) kq)
  show Win p e below _ s₁ (mkF mt 20 #[.val (.int t_), .val (.int first), .val (.int rest_), .val (.int sel), .val (.int tag), .val (.int b0), .val (.int b1), .unset, .unset, .unset, .unset, .unset, .unset, .unset, .unset, .unset, .unset] [(.int (8 : Int32)), (.int rest_)])
  refine Win.st ?_ (fun tq kq => XS.iushr X0.here hx rfl (hb hby at_20) rfl kq)
  show Win p e below _ s₁ (mkF mt 21 #[.val (.int t_), .val (.int first), .val (.int rest_), .val (.int sel), .val (.int tag), .val (.int b0), .val (.int b1), .unset, .unset, .unset, .unset, .unset, .unset, .unset, .unset, .unset, .unset] [(.int ((rest_.toUInt32 >>> ((8 : Int32) &&& 31).toUInt32).toInt32))])
  refine Win.st ?_ (fun tq kq => XS.i2b X0.here hx rfl (hb hby at_21) rfl kq)
  show Win p e below _ s₁ (mkF mt 22 #[.val (.int t_), .val (.int first), .val (.int rest_), .val (.int sel), .val (.int tag), .val (.int b0), .val (.int b1), .unset, .unset, .unset, .unset, .unset, .unset, .unset, .unset, .unset, .unset] [(.int (((rest_.toUInt32 >>> ((8 : Int32) &&& 31).toUInt32).toInt32).toInt8.toInt32))])
  obtain ⟨b2, hb2⟩ : ∃ z, z = (((rest_.toUInt32 >>> ((8 : Int32) &&& 31).toUInt32).toInt32).toInt8.toInt32) := ⟨_, rfl⟩
  have hc2 : b2.toInt8.toInt32 = b2 := by rw [hb2]; exact own_b8 _
  rw [← hb2]
  show Win p e below _ s₁ (mkF mt 22 #[.val (.int t_), .val (.int first), .val (.int rest_), .val (.int sel), .val (.int tag), .val (.int b0), .val (.int b1), .unset, .unset, .unset, .unset, .unset, .unset, .unset, .unset, .unset, .unset] [(.int b2)])
  refine Win.st ?_ (fun tq kq => XS.istore X0.here hx rfl (hb hby at_22) rfl (l' := #[.val (.int t_), .val (.int first), .val (.int rest_), .val (.int sel), .val (.int tag), .val (.int b0), .val (.int b1), .val (.int b2), .unset, .unset, .unset, .unset, .unset, .unset, .unset, .unset, .unset]) rfl kq)
  show Win p e below _ s₁ (mkF mt 24 #[.val (.int t_), .val (.int first), .val (.int rest_), .val (.int sel), .val (.int tag), .val (.int b0), .val (.int b1), .val (.int b2), .unset, .unset, .unset, .unset, .unset, .unset, .unset, .unset, .unset] [])
  refine Win.st ?_ (fun tq kq => XS.iloadN X0.here hx rfl (hb hby at_24) rfl kq)
  show Win p e below _ s₁ (mkF mt 25 #[.val (.int t_), .val (.int first), .val (.int rest_), .val (.int sel), .val (.int tag), .val (.int b0), .val (.int b1), .val (.int b2), .unset, .unset, .unset, .unset, .unset, .unset, .unset, .unset, .unset] [(.int rest_)])
  refine Win.st ?_ (fun tq kq => XS.bipush X0.here hx rfl (hb hby at_25) kq)
  show Win p e below _ s₁ (mkF mt 27 #[.val (.int t_), .val (.int first), .val (.int rest_), .val (.int sel), .val (.int tag), .val (.int b0), .val (.int b1), .val (.int b2), .unset, .unset, .unset, .unset, .unset, .unset, .unset, .unset, .unset] [(.int (16 : Int32)), (.int rest_)])
  refine Win.st ?_ (fun tq kq => XS.iushr X0.here hx rfl (hb hby at_27) rfl kq)
  show Win p e below _ s₁ (mkF mt 28 #[.val (.int t_), .val (.int first), .val (.int rest_), .val (.int sel), .val (.int tag), .val (.int b0), .val (.int b1), .val (.int b2), .unset, .unset, .unset, .unset, .unset, .unset, .unset, .unset, .unset] [(.int ((rest_.toUInt32 >>> ((16 : Int32) &&& 31).toUInt32).toInt32))])
  refine Win.st ?_ (fun tq kq => XS.i2b X0.here hx rfl (hb hby at_28) rfl kq)
  show Win p e below _ s₁ (mkF mt 29 #[.val (.int t_), .val (.int first), .val (.int rest_), .val (.int sel), .val (.int tag), .val (.int b0), .val (.int b1), .val (.int b2), .unset, .unset, .unset, .unset, .unset, .unset, .unset, .unset, .unset] [(.int (((rest_.toUInt32 >>> ((16 : Int32) &&& 31).toUInt32).toInt32).toInt8.toInt32))])
  obtain ⟨b3, hb3⟩ : ∃ z, z = (((rest_.toUInt32 >>> ((16 : Int32) &&& 31).toUInt32).toInt32).toInt8.toInt32) := ⟨_, rfl⟩
  have hc3 : b3.toInt8.toInt32 = b3 := by rw [hb3]; exact own_b8 _
  rw [← hb3]
  show Win p e below _ s₁ (mkF mt 29 #[.val (.int t_), .val (.int first), .val (.int rest_), .val (.int sel), .val (.int tag), .val (.int b0), .val (.int b1), .val (.int b2), .unset, .unset, .unset, .unset, .unset, .unset, .unset, .unset, .unset] [(.int b3)])
  refine Win.st ?_ (fun tq kq => XS.istore X0.here hx rfl (hb hby at_29) rfl (l' := #[.val (.int t_), .val (.int first), .val (.int rest_), .val (.int sel), .val (.int tag), .val (.int b0), .val (.int b1), .val (.int b2), .val (.int b3), .unset, .unset, .unset, .unset, .unset, .unset, .unset, .unset]) rfl kq)
  show Win p e below _ s₁ (mkF mt 31 #[.val (.int t_), .val (.int first), .val (.int rest_), .val (.int sel), .val (.int tag), .val (.int b0), .val (.int b1), .val (.int b2), .val (.int b3), .unset, .unset, .unset, .unset, .unset, .unset, .unset, .unset] [])
  refine Win.st ?_ (fun tq kq => XS.iloadN X0.here hx rfl (hb hby at_31) rfl kq)
  show Win p e below _ s₁ (mkF mt 32 #[.val (.int t_), .val (.int first), .val (.int rest_), .val (.int sel), .val (.int tag), .val (.int b0), .val (.int b1), .val (.int b2), .val (.int b3), .unset, .unset, .unset, .unset, .unset, .unset, .unset, .unset] [(.int sel)])
  refine Win.st ?_ (fun tq kq => XS.iconst X0.here hx rfl (hb hby at_32) kq)
  show Win p e below _ s₁ (mkF mt 33 #[.val (.int t_), .val (.int first), .val (.int rest_), .val (.int sel), .val (.int tag), .val (.int b0), .val (.int b1), .val (.int b2), .val (.int b3), .unset, .unset, .unset, .unset, .unset, .unset, .unset, .unset] [(.int (1 : Int32)), (.int sel)])
  refine Win.st ?_ (fun tq kq => XS.iand X0.here hx rfl (hb hby at_33) rfl kq)
  show Win p e below _ s₁ (mkF mt 34 #[.val (.int t_), .val (.int first), .val (.int rest_), .val (.int sel), .val (.int tag), .val (.int b0), .val (.int b1), .val (.int b2), .val (.int b3), .unset, .unset, .unset, .unset, .unset, .unset, .unset, .unset] [(.int (sel &&& (1 : Int32)))])
  by_cases hc34 : (sel &&& (1 : Int32)) = (0 : Int32)
  · refine Win.st ?_ (fun tq kq => XS.ifYes X0.here hx rfl (pc0 := 34) (pc' := 41) rfl (hb hby at_34) rfl ((if0 _ _).trans (teq hc34).1) (by decide) (by decide) kq)
    show Win p e below _ s₁ (mkF mt 41 #[.val (.int t_), .val (.int first), .val (.int rest_), .val (.int sel), .val (.int tag), .val (.int b0), .val (.int b1), .val (.int b2), .val (.int b3), .unset, .unset, .unset, .unset, .unset, .unset, .unset, .unset] [])
    refine Win.st ?_ (fun tq kq => XS.iconst X0.here hx rfl (hb hby at_41) kq)
    show Win p e below _ s₁ (mkF mt 42 #[.val (.int t_), .val (.int first), .val (.int rest_), .val (.int sel), .val (.int tag), .val (.int b0), .val (.int b1), .val (.int b2), .val (.int b3), .unset, .unset, .unset, .unset, .unset, .unset, .unset, .unset] [(.int (0 : Int32))])
    refine Win.st ?_ (fun tq kq => XS.istore X0.here hx rfl (hb hby at_42) rfl (l' := #[.val (.int t_), .val (.int first), .val (.int rest_), .val (.int sel), .val (.int tag), .val (.int b0), .val (.int b1), .val (.int b2), .val (.int b3), .val (.int (0 : Int32)), .unset, .unset, .unset, .unset, .unset, .unset, .unset]) rfl kq)
    show Win p e below _ s₁ (mkF mt 44 #[.val (.int t_), .val (.int first), .val (.int rest_), .val (.int sel), .val (.int tag), .val (.int b0), .val (.int b1), .val (.int b2), .val (.int b3), .val (.int (0 : Int32)), .unset, .unset, .unset, .unset, .unset, .unset, .unset] [])
    refine Win.st ?_ (fun tq kq => XS.iload X0.here hx rfl (hb hby at_44) rfl kq)
    show Win p e below _ s₁ (mkF mt 46 #[.val (.int t_), .val (.int first), .val (.int rest_), .val (.int sel), .val (.int tag), .val (.int b0), .val (.int b1), .val (.int b2), .val (.int b3), .val (.int (0 : Int32)), .unset, .unset, .unset, .unset, .unset, .unset, .unset] [(.int (0 : Int32))])
    refine Win.st ?_ (fun tq kq => XS.ifYes X0.here hx rfl (pc0 := 46) (pc' := 60) rfl (hb hby at_46) rfl ((if0 _ _).trans (teq (rfl : (0 : Int32) = (0 : Int32))).1) (by decide) (by decide) kq)
    show Win p e below _ s₁ (mkF mt 60 #[.val (.int t_), .val (.int first), .val (.int rest_), .val (.int sel), .val (.int tag), .val (.int b0), .val (.int b1), .val (.int b2), .val (.int b3), .val (.int (0 : Int32)), .unset, .unset, .unset, .unset, .unset, .unset, .unset] [])
    refine Win.st ?_ (fun tq kq => XS.iconst X0.here hx rfl (hb hby at_60) kq)
    show Win p e below _ s₁ (mkF mt 61 #[.val (.int t_), .val (.int first), .val (.int rest_), .val (.int sel), .val (.int tag), .val (.int b0), .val (.int b1), .val (.int b2), .val (.int b3), .val (.int (0 : Int32)), .unset, .unset, .unset, .unset, .unset, .unset, .unset] [(.int (4 : Int32))])
    obtain ⟨T23, h23, k23, X23, e23, E23, A23, Ex23, st23⟩ := newPE X0 hx hZ (hw _ (List.mem_of_getElem? (i := 1) rfl)) e0 (g := (mkF mt 61 #[.val (.int t_), .val (.int first), .val (.int rest_), .val (.int sel), .val (.int tag), .val (.int b0), .val (.int b1), .val (.int b2), .val (.int b3), .val (.int (0 : Int32)), .unset, .unset, .unset, .unset, .unset, .unset, .unset] [(.int (4 : Int32))])) rfl (hb hby at_61) rfl (by decide) (cap := 4) (by decide) (by decide) (by decide) (by decide) (ad := "[B") (by decide)
    obtain ⟨b23, gq23⟩ : ∃ z, z = h0.size := ⟨_, rfl⟩
    rw [← gq23] at A23 st23 Ex23
    have g24 : n0 ≤ b23 := own_newle Z0 gq23
    have ke23 := own_kext E23
    replace X23 : Stand p l e _ s mt args below meth cd T23 _ 1 4 := X23
    have Z26 : n0 ≤ h23.size := Nat.le_trans Z0 ke23.1
    have V23 : Arv Z h23 b23 k23 .byte (4 : Int32) [(.int (0 : Int32)), (.int (0 : Int32)), (.int (0 : Int32)), (.int (0 : Int32))] (.int (0 : Int32)) := (Arv.new A23 (by decide)).pad (pad_rep [] (.int (0 : Int32)) 4)
    refine Win.st ?_ st23
    show Win p e below _ T23 (mkF mt 63 #[.val (.int t_), .val (.int first), .val (.int rest_), .val (.int sel), .val (.int tag), .val (.int b0), .val (.int b1), .val (.int b2), .val (.int b3), .val (.int (0 : Int32)), .unset, .unset, .unset, .unset, .unset, .unset, .unset] [(.ref b23)])
    refine Win.st ?_ (fun tq kq => XS.dup X23.here hx rfl (hb hby at_63) rfl rfl kq)
    show Win p e below _ T23 (mkF mt 64 #[.val (.int t_), .val (.int first), .val (.int rest_), .val (.int sel), .val (.int tag), .val (.int b0), .val (.int b1), .val (.int b2), .val (.int b3), .val (.int (0 : Int32)), .unset, .unset, .unset, .unset, .unset, .unset, .unset] [(.ref b23), (.ref b23)])
    refine Win.st ?_ (fun tq kq => XS.iconst X23.here hx rfl (hb hby at_64) kq)
    show Win p e below _ T23 (mkF mt 65 #[.val (.int t_), .val (.int first), .val (.int rest_), .val (.int sel), .val (.int tag), .val (.int b0), .val (.int b1), .val (.int b2), .val (.int b3), .val (.int (0 : Int32)), .unset, .unset, .unset, .unset, .unset, .unset, .unset] [(.int (0 : Int32)), (.ref b23), (.ref b23)])
    refine Win.st ?_ (fun tq kq => XS.iload X23.here hx rfl (hb hby at_65) rfl kq)
    show Win p e below _ T23 (mkF mt 67 #[.val (.int t_), .val (.int first), .val (.int rest_), .val (.int sel), .val (.int tag), .val (.int b0), .val (.int b1), .val (.int b2), .val (.int b3), .val (.int (0 : Int32)), .unset, .unset, .unset, .unset, .unset, .unset, .unset] [(.int b0), (.int (0 : Int32)), (.ref b23), (.ref b23)])
    obtain ⟨T27, h27, L27, X27, N27, e27, kp27, V27, st27⟩ := own_bast (g := (mkF mt 67 #[.val (.int t_), .val (.int first), .val (.int rest_), .val (.int sel), .val (.int tag), .val (.int b0), .val (.int b1), .val (.int b2), .val (.int b3), .val (.int (0 : Int32)), .unset, .unset, .unset, .unset, .unset, .unset, .unset] [(.int b0), (.int (0 : Int32)), (.ref b23), (.ref b23)])) X23 hx hZ e23 N0 g24 V23 (j := (0 : Int32)) (by decide) (by decide) (i := 0) rfl (by simp) rfl rfl (hb hby at_67)
    rw [hc0] at V27
    replace V27 : Arv Z h27 b23 k23 .byte (4 : Int32) ([(.int b0), (.int (0 : Int32)), (.int (0 : Int32)), (.int (0 : Int32))]) (.int (0 : Int32)) := V27
    have f28_105 := Ex23.keep kp27
    have Z29 : n0 ≤ h27.size := Nat.le_trans Z26 kp27.1
    refine Win.st ?_ st27
    show Win p e below _ T27 (mkF mt 68 #[.val (.int t_), .val (.int first), .val (.int rest_), .val (.int sel), .val (.int tag), .val (.int b0), .val (.int b1), .val (.int b2), .val (.int b3), .val (.int (0 : Int32)), .unset, .unset, .unset, .unset, .unset, .unset, .unset] [(.ref b23)])
    refine Win.st ?_ (fun tq kq => XS.dup X27.here hx rfl (hb hby at_68) rfl rfl kq)
    show Win p e below _ T27 (mkF mt 69 #[.val (.int t_), .val (.int first), .val (.int rest_), .val (.int sel), .val (.int tag), .val (.int b0), .val (.int b1), .val (.int b2), .val (.int b3), .val (.int (0 : Int32)), .unset, .unset, .unset, .unset, .unset, .unset, .unset] [(.ref b23), (.ref b23)])
    refine Win.st ?_ (fun tq kq => XS.iconst X27.here hx rfl (hb hby at_69) kq)
    show Win p e below _ T27 (mkF mt 70 #[.val (.int t_), .val (.int first), .val (.int rest_), .val (.int sel), .val (.int tag), .val (.int b0), .val (.int b1), .val (.int b2), .val (.int b3), .val (.int (0 : Int32)), .unset, .unset, .unset, .unset, .unset, .unset, .unset] [(.int (1 : Int32)), (.ref b23), (.ref b23)])
    refine Win.st ?_ (fun tq kq => XS.iload X27.here hx rfl (hb hby at_70) rfl kq)
    show Win p e below _ T27 (mkF mt 72 #[.val (.int t_), .val (.int first), .val (.int rest_), .val (.int sel), .val (.int tag), .val (.int b0), .val (.int b1), .val (.int b2), .val (.int b3), .val (.int (0 : Int32)), .unset, .unset, .unset, .unset, .unset, .unset, .unset] [(.int b1), (.int (1 : Int32)), (.ref b23), (.ref b23)])
    obtain ⟨T30, h30, L30, X30, N30, e30, kp30, V30, st30⟩ := own_bast (g := (mkF mt 72 #[.val (.int t_), .val (.int first), .val (.int rest_), .val (.int sel), .val (.int tag), .val (.int b0), .val (.int b1), .val (.int b2), .val (.int b3), .val (.int (0 : Int32)), .unset, .unset, .unset, .unset, .unset, .unset, .unset] [(.int b1), (.int (1 : Int32)), (.ref b23), (.ref b23)])) X27 hx hZ e27 N27 g24 V27 (j := (1 : Int32)) (by decide) (by decide) (i := 1) rfl (by simp) rfl rfl (hb hby at_72)
    rw [hc1] at V30
    replace V30 : Arv Z h30 b23 k23 .byte (4 : Int32) ([(.int b0), (.int b1), (.int (0 : Int32)), (.int (0 : Int32))]) (.int (0 : Int32)) := V30
    have f31_118 := f28_105.keep kp30
    have Z32 : n0 ≤ h30.size := Nat.le_trans Z29 kp30.1
    refine Win.st ?_ st30
    show Win p e below _ T30 (mkF mt 73 #[.val (.int t_), .val (.int first), .val (.int rest_), .val (.int sel), .val (.int tag), .val (.int b0), .val (.int b1), .val (.int b2), .val (.int b3), .val (.int (0 : Int32)), .unset, .unset, .unset, .unset, .unset, .unset, .unset] [(.ref b23)])
    refine Win.st ?_ (fun tq kq => XS.dup X30.here hx rfl (hb hby at_73) rfl rfl kq)
    show Win p e below _ T30 (mkF mt 74 #[.val (.int t_), .val (.int first), .val (.int rest_), .val (.int sel), .val (.int tag), .val (.int b0), .val (.int b1), .val (.int b2), .val (.int b3), .val (.int (0 : Int32)), .unset, .unset, .unset, .unset, .unset, .unset, .unset] [(.ref b23), (.ref b23)])
    refine Win.st ?_ (fun tq kq => XS.iconst X30.here hx rfl (hb hby at_74) kq)
    show Win p e below _ T30 (mkF mt 75 #[.val (.int t_), .val (.int first), .val (.int rest_), .val (.int sel), .val (.int tag), .val (.int b0), .val (.int b1), .val (.int b2), .val (.int b3), .val (.int (0 : Int32)), .unset, .unset, .unset, .unset, .unset, .unset, .unset] [(.int (2 : Int32)), (.ref b23), (.ref b23)])
    refine Win.st ?_ (fun tq kq => XS.iload X30.here hx rfl (hb hby at_75) rfl kq)
    show Win p e below _ T30 (mkF mt 77 #[.val (.int t_), .val (.int first), .val (.int rest_), .val (.int sel), .val (.int tag), .val (.int b0), .val (.int b1), .val (.int b2), .val (.int b3), .val (.int (0 : Int32)), .unset, .unset, .unset, .unset, .unset, .unset, .unset] [(.int b2), (.int (2 : Int32)), (.ref b23), (.ref b23)])
    obtain ⟨T33, h33, L33, X33, N33, e33, kp33, V33, st33⟩ := own_bast (g := (mkF mt 77 #[.val (.int t_), .val (.int first), .val (.int rest_), .val (.int sel), .val (.int tag), .val (.int b0), .val (.int b1), .val (.int b2), .val (.int b3), .val (.int (0 : Int32)), .unset, .unset, .unset, .unset, .unset, .unset, .unset] [(.int b2), (.int (2 : Int32)), (.ref b23), (.ref b23)])) X30 hx hZ e30 N30 g24 V30 (j := (2 : Int32)) (by decide) (by decide) (i := 2) rfl (by simp) rfl rfl (hb hby at_77)
    rw [hc2] at V33
    replace V33 : Arv Z h33 b23 k23 .byte (4 : Int32) ([(.int b0), (.int b1), (.int b2), (.int (0 : Int32))]) (.int (0 : Int32)) := V33
    have f34_131 := f31_118.keep kp33
    have Z35 : n0 ≤ h33.size := Nat.le_trans Z32 kp33.1
    refine Win.st ?_ st33
    show Win p e below _ T33 (mkF mt 78 #[.val (.int t_), .val (.int first), .val (.int rest_), .val (.int sel), .val (.int tag), .val (.int b0), .val (.int b1), .val (.int b2), .val (.int b3), .val (.int (0 : Int32)), .unset, .unset, .unset, .unset, .unset, .unset, .unset] [(.ref b23)])
    refine Win.st ?_ (fun tq kq => XS.dup X33.here hx rfl (hb hby at_78) rfl rfl kq)
    show Win p e below _ T33 (mkF mt 79 #[.val (.int t_), .val (.int first), .val (.int rest_), .val (.int sel), .val (.int tag), .val (.int b0), .val (.int b1), .val (.int b2), .val (.int b3), .val (.int (0 : Int32)), .unset, .unset, .unset, .unset, .unset, .unset, .unset] [(.ref b23), (.ref b23)])
    refine Win.st ?_ (fun tq kq => XS.iconst X33.here hx rfl (hb hby at_79) kq)
    show Win p e below _ T33 (mkF mt 80 #[.val (.int t_), .val (.int first), .val (.int rest_), .val (.int sel), .val (.int tag), .val (.int b0), .val (.int b1), .val (.int b2), .val (.int b3), .val (.int (0 : Int32)), .unset, .unset, .unset, .unset, .unset, .unset, .unset] [(.int (3 : Int32)), (.ref b23), (.ref b23)])
    refine Win.st ?_ (fun tq kq => XS.iload X33.here hx rfl (hb hby at_80) rfl kq)
    show Win p e below _ T33 (mkF mt 82 #[.val (.int t_), .val (.int first), .val (.int rest_), .val (.int sel), .val (.int tag), .val (.int b0), .val (.int b1), .val (.int b2), .val (.int b3), .val (.int (0 : Int32)), .unset, .unset, .unset, .unset, .unset, .unset, .unset] [(.int b3), (.int (3 : Int32)), (.ref b23), (.ref b23)])
    obtain ⟨T36, h36, L36, X36, N36, e36, kp36, V36, st36⟩ := own_bast (g := (mkF mt 82 #[.val (.int t_), .val (.int first), .val (.int rest_), .val (.int sel), .val (.int tag), .val (.int b0), .val (.int b1), .val (.int b2), .val (.int b3), .val (.int (0 : Int32)), .unset, .unset, .unset, .unset, .unset, .unset, .unset] [(.int b3), (.int (3 : Int32)), (.ref b23), (.ref b23)])) X33 hx hZ e33 N33 g24 V33 (j := (3 : Int32)) (by decide) (by decide) (i := 3) rfl (by simp) rfl rfl (hb hby at_82)
    rw [hc3] at V36
    replace V36 : Arv Z h36 b23 k23 .byte (4 : Int32) ([(.int b0), (.int b1), (.int b2), (.int b3)]) (.int (0 : Int32)) := V36
    have f37_144 := f34_131.keep kp36
    have Z38 : n0 ≤ h36.size := Nat.le_trans Z35 kp36.1
    refine Win.st ?_ st36
    show Win p e below _ T36 (mkF mt 83 #[.val (.int t_), .val (.int first), .val (.int rest_), .val (.int sel), .val (.int tag), .val (.int b0), .val (.int b1), .val (.int b2), .val (.int b3), .val (.int (0 : Int32)), .unset, .unset, .unset, .unset, .unset, .unset, .unset] [(.ref b23)])
    refine Win.st ?_ (fun tq kq => XS.astore X36.here hx rfl (hb hby at_83) rfl rfl (l' := #[.val (.int t_), .val (.int first), .val (.int rest_), .val (.int sel), .val (.int tag), .val (.int b0), .val (.int b1), .val (.int b2), .val (.int b3), .val (.int (0 : Int32)), .val (.ref b23), .unset, .unset, .unset, .unset, .unset, .unset]) rfl kq)
    show Win p e below _ T36 (mkF mt 85 #[.val (.int t_), .val (.int first), .val (.int rest_), .val (.int sel), .val (.int tag), .val (.int b0), .val (.int b1), .val (.int b2), .val (.int b3), .val (.int (0 : Int32)), .val (.ref b23), .unset, .unset, .unset, .unset, .unset, .unset] [])
    refine Win.st ?_ (fun tq kq => XS.iload X36.here hx rfl (hb hby at_85) rfl kq)
    show Win p e below _ T36 (mkF mt 87 #[.val (.int t_), .val (.int first), .val (.int rest_), .val (.int sel), .val (.int tag), .val (.int b0), .val (.int b1), .val (.int b2), .val (.int b3), .val (.int (0 : Int32)), .val (.ref b23), .unset, .unset, .unset, .unset, .unset, .unset] [(.int tag)])
    refine Win.st ?_ (fun tq kq => XS.aload X36.here hx rfl (hb hby at_87) rfl rfl kq)
    show Win p e below _ T36 (mkF mt 89 #[.val (.int t_), .val (.int first), .val (.int rest_), .val (.int sel), .val (.int tag), .val (.int b0), .val (.int b1), .val (.int b2), .val (.int b3), .val (.int (0 : Int32)), .val (.ref b23), .unset, .unset, .unset, .unset, .unset, .unset] [(.ref b23), (.int tag)])
    obtain ⟨v39, _, ⟨T39, L39, k39, n39⟩, -, X39, ⟨Lc39, hQ39, l39, y39, z39⟩, st39⟩ := Jvm.LawKit.callS X36 hx (y := (⟨"com/example/foldkey/foldkey/encoding/Der", "implicit", "(I[B)[B"⟩ : MethodName)) hown (mvT hZ (hw _ (List.mem_of_getElem? (i := 2) rfl))) (mvT hZ (hw _ (List.mem_of_getElem? (i := 3) rfl))) (mvT hZ (hw _ (List.mem_of_getElem? (i := 4) rfl))) (mvT hZ (hw _ (List.mem_of_getElem? (i := 5) rfl))) (by decide) (backOf (W := 0) (rm_impl l Z a0 hw [] tag b23 k23 (4 : Int32) [(.int b0), (.int b1), (.int b2), (.int b3)] b0 h36 n0 Z38 V36 f37_144 (by decide) (by decide) (by simp) rfl) hZ (hw _ (List.mem_of_getElem? (i := 5) rfl)) (hw _ (List.mem_of_getElem? (i := 4) rfl)) (by decide) (by decide)) (g := (mkF mt 89 #[.val (.int t_), .val (.int first), .val (.int rest_), .val (.int sel), .val (.int tag), .val (.int b0), .val (.int b1), .val (.int b2), .val (.int b3), .val (.int (0 : Int32)), .val (.ref b23), .unset, .unset, .unset, .unset, .unset, .unset] [(.ref b23), (.int tag)])) rfl (by rw [hml]; rfl) (argsL := [(.int tag), (.ref b23)]) (rest := []) (lenOf pd_0 rfl) rfl (by show 2 * 0 + _ ≤ _; exact Nat.le_of_eq rfl) (hb hby at_89) (fun _ _ => ⟨rfl, e36, (by decide : 1 + 1 ≤ _), (by decide : 4 + 4 ≤ _)⟩)
    dsimp only [Pt.U, Pt.locs, Pt.cells, Pt.slots] at X39 l39 y39 z39 st39 hQ39
    subst y39 z39
    replace X39 : Stand p l e _ s mt args below meth cd T39 L39 2 8 := X39
    obtain ⟨h39, e39⟩ : ∃ z, T39.heap = z := ⟨_, rfl⟩
    rw [e39] at hQ39
    obtain ⟨rr, rfl, Nq39, K39, gr39, nr39, V39⟩ := hQ39
    have N39 : Fr n0 L39 := by rw [l39]; exact Fr.app N36 Nq39
    have f40_162 := V36.keep K39 nin0
    have f40_163 := f37_144.keep K39
    have Z41 : n0 ≤ h39.size := Nat.le_trans Z38 K39.1
    refine Win.st ?_ st39
    show Win p e below _ T39 (mkF mt 92 #[.val (.int t_), .val (.int first), .val (.int rest_), .val (.int sel), .val (.int tag), .val (.int b0), .val (.int b1), .val (.int b2), .val (.int b3), .val (.int (0 : Int32)), .val (.ref b23), .unset, .unset, .unset, .unset, .unset, .unset] [(.ref rr)])
    refine Win.st ?_ (fun tq kq => XS.astore X39.here hx rfl (hb hby at_92) rfl rfl (l' := #[.val (.int t_), .val (.int first), .val (.int rest_), .val (.int sel), .val (.int tag), .val (.int b0), .val (.int b1), .val (.int b2), .val (.int b3), .val (.int (0 : Int32)), .val (.ref b23), .val (.ref rr), .unset, .unset, .unset, .unset, .unset]) rfl kq)
    show Win p e below _ T39 (mkF mt 94 #[.val (.int t_), .val (.int first), .val (.int rest_), .val (.int sel), .val (.int tag), .val (.int b0), .val (.int b1), .val (.int b2), .val (.int b3), .val (.int (0 : Int32)), .val (.ref b23), .val (.ref rr), .unset, .unset, .unset, .unset, .unset] [])
    refine Win.st ?_ (fun tq kq => XS.aload X39.here hx rfl (hb hby at_94) rfl rfl kq)
    show Win p e below _ T39 (mkF mt 96 #[.val (.int t_), .val (.int first), .val (.int rest_), .val (.int sel), .val (.int tag), .val (.int b0), .val (.int b1), .val (.int b2), .val (.int b3), .val (.int (0 : Int32)), .val (.ref b23), .val (.ref rr), .unset, .unset, .unset, .unset, .unset] [(.ref rr)])
    refine Win.st ?_ (fun tq kq => XS.aload X39.here hx rfl (hb hby at_96) rfl rfl kq)
    show Win p e below _ T39 (mkF mt 98 #[.val (.int t_), .val (.int first), .val (.int rest_), .val (.int sel), .val (.int tag), .val (.int b0), .val (.int b1), .val (.int b2), .val (.int b3), .val (.int (0 : Int32)), .val (.ref b23), .val (.ref rr), .unset, .unset, .unset, .unset, .unset] [(.ref b23), (.ref rr)])
    refine Win.st ?_ (fun tq kq => Jvm.RoadKit.acmp (g := (mkF mt 98 #[.val (.int t_), .val (.int first), .val (.int rest_), .val (.int sel), .val (.int tag), .val (.int b0), .val (.int b1), .val (.int b2), .val (.int b3), .val (.int (0 : Int32)), .val (.ref b23), .val (.ref rr), .unset, .unset, .unset, .unset, .unset] [(.ref b23), (.ref rr)])) X39 hx rfl rfl rfl (pc0 := 98) (pc' := 103) (same := false) rfl (hb hby at_98) rfl (decide_eq_false fun q => (Ne.symm nr39) (Value.ref.inj q)) (by decide) (by decide) kq)
    show Win p e below _ T39 (mkF mt 103 #[.val (.int t_), .val (.int first), .val (.int rest_), .val (.int sel), .val (.int tag), .val (.int b0), .val (.int b1), .val (.int b2), .val (.int b3), .val (.int (0 : Int32)), .val (.ref b23), .val (.ref rr), .unset, .unset, .unset, .unset, .unset] [])
    refine Win.st ?_ (fun tq kq => XS.aload X39.here hx rfl (hb hby at_103) rfl rfl kq)
    show Win p e below _ T39 (mkF mt 105 #[.val (.int t_), .val (.int first), .val (.int rest_), .val (.int sel), .val (.int tag), .val (.int b0), .val (.int b1), .val (.int b2), .val (.int b3), .val (.int (0 : Int32)), .val (.ref b23), .val (.ref rr), .unset, .unset, .unset, .unset, .unset] [(.ref rr)])
    refine Win.st ?_ (own_alen (g := (mkF mt 105 #[.val (.int t_), .val (.int first), .val (.int rest_), .val (.int sel), .val (.int tag), .val (.int b0), .val (.int b1), .val (.int b2), .val (.int b3), .val (.int (0 : Int32)), .val (.ref b23), .val (.ref rr), .unset, .unset, .unset, .unset, .unset] [(.ref rr)])) X39 hx hZ e39 V39 rfl rfl (hb hby at_105))
    show Win p e below _ T39 (mkF mt 106 #[.val (.int t_), .val (.int first), .val (.int rest_), .val (.int sel), .val (.int tag), .val (.int b0), .val (.int b1), .val (.int b2), .val (.int b3), .val (.int (0 : Int32)), .val (.ref b23), .val (.ref rr), .unset, .unset, .unset, .unset, .unset] [(.int (4 : Int32))])
    refine Win.st ?_ (fun tq kq => XS.aload X39.here hx rfl (hb hby at_106) rfl rfl kq)
    show Win p e below _ T39 (mkF mt 108 #[.val (.int t_), .val (.int first), .val (.int rest_), .val (.int sel), .val (.int tag), .val (.int b0), .val (.int b1), .val (.int b2), .val (.int b3), .val (.int (0 : Int32)), .val (.ref b23), .val (.ref rr), .unset, .unset, .unset, .unset, .unset] [(.ref b23), (.int (4 : Int32))])
    refine Win.st ?_ (own_alen (g := (mkF mt 108 #[.val (.int t_), .val (.int first), .val (.int rest_), .val (.int sel), .val (.int tag), .val (.int b0), .val (.int b1), .val (.int b2), .val (.int b3), .val (.int (0 : Int32)), .val (.ref b23), .val (.ref rr), .unset, .unset, .unset, .unset, .unset] [(.ref b23), (.int (4 : Int32))])) X39 hx hZ e39 f40_162 rfl rfl (hb hby at_108))
    show Win p e below _ T39 (mkF mt 109 #[.val (.int t_), .val (.int first), .val (.int rest_), .val (.int sel), .val (.int tag), .val (.int b0), .val (.int b1), .val (.int b2), .val (.int b3), .val (.int (0 : Int32)), .val (.ref b23), .val (.ref rr), .unset, .unset, .unset, .unset, .unset] [(.int (4 : Int32)), (.int (4 : Int32))])
    refine Win.st ?_ (fun tq kq => XS.icmpYes X39.here hx rfl (pc0 := 109) (pc' := 114) rfl (hb hby at_109) rfl (teq (rfl : (4 : Int32) = (4 : Int32))).1 (by decide) (by decide) kq)
    show Win p e below _ T39 (mkF mt 114 #[.val (.int t_), .val (.int first), .val (.int rest_), .val (.int sel), .val (.int tag), .val (.int b0), .val (.int b1), .val (.int b2), .val (.int b3), .val (.int (0 : Int32)), .val (.ref b23), .val (.ref rr), .unset, .unset, .unset, .unset, .unset] [])
    refine Win.st ?_ (fun tq kq => XS.aload X39.here hx rfl (hb hby at_114) rfl rfl kq)
    show Win p e below _ T39 (mkF mt 116 #[.val (.int t_), .val (.int first), .val (.int rest_), .val (.int sel), .val (.int tag), .val (.int b0), .val (.int b1), .val (.int b2), .val (.int b3), .val (.int (0 : Int32)), .val (.ref b23), .val (.ref rr), .unset, .unset, .unset, .unset, .unset] [(.ref b23)])
    refine Win.st ?_ (fun tq kq => XS.iconst X39.here hx rfl (hb hby at_116) kq)
    show Win p e below _ T39 (mkF mt 117 #[.val (.int t_), .val (.int first), .val (.int rest_), .val (.int sel), .val (.int tag), .val (.int b0), .val (.int b1), .val (.int b2), .val (.int b3), .val (.int (0 : Int32)), .val (.ref b23), .val (.ref rr), .unset, .unset, .unset, .unset, .unset] [(.int (0 : Int32)), (.ref b23)])
    refine Win.st ?_ (own_bald (g := (mkF mt 117 #[.val (.int t_), .val (.int first), .val (.int rest_), .val (.int sel), .val (.int tag), .val (.int b0), .val (.int b1), .val (.int b2), .val (.int b3), .val (.int (0 : Int32)), .val (.ref b23), .val (.ref rr), .unset, .unset, .unset, .unset, .unset] [(.int (0 : Int32)), (.ref b23)])) X39 hx hZ e39 f40_162 (j := (0 : Int32)) (v := (.int b0)) (by decide) (by decide) rfl rfl rfl (hb hby at_117))
    show Win p e below _ T39 (mkF mt 118 #[.val (.int t_), .val (.int first), .val (.int rest_), .val (.int sel), .val (.int tag), .val (.int b0), .val (.int b1), .val (.int b2), .val (.int b3), .val (.int (0 : Int32)), .val (.ref b23), .val (.ref rr), .unset, .unset, .unset, .unset, .unset] [(.int b0)])
    refine Win.st ?_ (fun tq kq => XS.iload X39.here hx rfl (hb hby at_118) rfl kq)
    show Win p e below _ T39 (mkF mt 120 #[.val (.int t_), .val (.int first), .val (.int rest_), .val (.int sel), .val (.int tag), .val (.int b0), .val (.int b1), .val (.int b2), .val (.int b3), .val (.int (0 : Int32)), .val (.ref b23), .val (.ref rr), .unset, .unset, .unset, .unset, .unset] [(.int b0), (.int b0)])
    refine Win.st ?_ (fun tq kq => XS.icmpYes X39.here hx rfl (pc0 := 120) (pc' := 125) rfl (hb hby at_120) rfl (teq (rfl : b0 = b0)).1 (by decide) (by decide) kq)
    show Win p e below _ T39 (mkF mt 125 #[.val (.int t_), .val (.int first), .val (.int rest_), .val (.int sel), .val (.int tag), .val (.int b0), .val (.int b1), .val (.int b2), .val (.int b3), .val (.int (0 : Int32)), .val (.ref b23), .val (.ref rr), .unset, .unset, .unset, .unset, .unset] [])
    refine Win.st ?_ (fun tq kq => XS.iload X39.here hx rfl (hb hby at_125) rfl kq)
    show Win p e below _ T39 (mkF mt 127 #[.val (.int t_), .val (.int first), .val (.int rest_), .val (.int sel), .val (.int tag), .val (.int b0), .val (.int b1), .val (.int b2), .val (.int b3), .val (.int (0 : Int32)), .val (.ref b23), .val (.ref rr), .unset, .unset, .unset, .unset, .unset] [(.int (0 : Int32))])
    refine Win.st ?_ (fun tq kq => XS.ifNo X39.here hx rfl (hb hby at_127) rfl ((if0 _ _).trans (teq (rfl : (0 : Int32) = (0 : Int32))).2) kq)
    show Win p e below _ T39 (mkF mt 130 #[.val (.int t_), .val (.int first), .val (.int rest_), .val (.int sel), .val (.int tag), .val (.int b0), .val (.int b1), .val (.int b2), .val (.int b3), .val (.int (0 : Int32)), .val (.ref b23), .val (.ref rr), .unset, .unset, .unset, .unset, .unset] [])
    refine Win.st ?_ (fun tq kq => XS.aload X39.here hx rfl (hb hby at_130) rfl rfl kq)
    show Win p e below _ T39 (mkF mt 132 #[.val (.int t_), .val (.int first), .val (.int rest_), .val (.int sel), .val (.int tag), .val (.int b0), .val (.int b1), .val (.int b2), .val (.int b3), .val (.int (0 : Int32)), .val (.ref b23), .val (.ref rr), .unset, .unset, .unset, .unset, .unset] [(.ref b23)])
    refine Win.st ?_ (fun tq kq => XS.iconst X39.here hx rfl (hb hby at_132) kq)
    show Win p e below _ T39 (mkF mt 133 #[.val (.int t_), .val (.int first), .val (.int rest_), .val (.int sel), .val (.int tag), .val (.int b0), .val (.int b1), .val (.int b2), .val (.int b3), .val (.int (0 : Int32)), .val (.ref b23), .val (.ref rr), .unset, .unset, .unset, .unset, .unset] [(.int (1 : Int32)), (.ref b23)])
    refine Win.st ?_ (own_bald (g := (mkF mt 133 #[.val (.int t_), .val (.int first), .val (.int rest_), .val (.int sel), .val (.int tag), .val (.int b0), .val (.int b1), .val (.int b2), .val (.int b3), .val (.int (0 : Int32)), .val (.ref b23), .val (.ref rr), .unset, .unset, .unset, .unset, .unset] [(.int (1 : Int32)), (.ref b23)])) X39 hx hZ e39 f40_162 (j := (1 : Int32)) (v := (.int b1)) (by decide) (by decide) rfl rfl rfl (hb hby at_133))
    show Win p e below _ T39 (mkF mt 134 #[.val (.int t_), .val (.int first), .val (.int rest_), .val (.int sel), .val (.int tag), .val (.int b0), .val (.int b1), .val (.int b2), .val (.int b3), .val (.int (0 : Int32)), .val (.ref b23), .val (.ref rr), .unset, .unset, .unset, .unset, .unset] [(.int b1)])
    refine Win.st ?_ (fun tq kq => XS.iload X39.here hx rfl (hb hby at_134) rfl kq)
    show Win p e below _ T39 (mkF mt 136 #[.val (.int t_), .val (.int first), .val (.int rest_), .val (.int sel), .val (.int tag), .val (.int b0), .val (.int b1), .val (.int b2), .val (.int b3), .val (.int (0 : Int32)), .val (.ref b23), .val (.ref rr), .unset, .unset, .unset, .unset, .unset] [(.int b1), (.int b1)])
    refine Win.st ?_ (fun tq kq => XS.icmpNo X39.here hx rfl (hb hby at_136) rfl (teq (rfl : b1 = b1)).2 kq)
    show Win p e below _ T39 (mkF mt 139 #[.val (.int t_), .val (.int first), .val (.int rest_), .val (.int sel), .val (.int tag), .val (.int b0), .val (.int b1), .val (.int b2), .val (.int b3), .val (.int (0 : Int32)), .val (.ref b23), .val (.ref rr), .unset, .unset, .unset, .unset, .unset] [])
    refine Win.st ?_ (fun tq kq => XS.aload X39.here hx rfl (hb hby at_139) rfl rfl kq)
    show Win p e below _ T39 (mkF mt 141 #[.val (.int t_), .val (.int first), .val (.int rest_), .val (.int sel), .val (.int tag), .val (.int b0), .val (.int b1), .val (.int b2), .val (.int b3), .val (.int (0 : Int32)), .val (.ref b23), .val (.ref rr), .unset, .unset, .unset, .unset, .unset] [(.ref b23)])
    refine Win.st ?_ (fun tq kq => XS.iconst X39.here hx rfl (hb hby at_141) kq)
    show Win p e below _ T39 (mkF mt 142 #[.val (.int t_), .val (.int first), .val (.int rest_), .val (.int sel), .val (.int tag), .val (.int b0), .val (.int b1), .val (.int b2), .val (.int b3), .val (.int (0 : Int32)), .val (.ref b23), .val (.ref rr), .unset, .unset, .unset, .unset, .unset] [(.int (2 : Int32)), (.ref b23)])
    refine Win.st ?_ (own_bald (g := (mkF mt 142 #[.val (.int t_), .val (.int first), .val (.int rest_), .val (.int sel), .val (.int tag), .val (.int b0), .val (.int b1), .val (.int b2), .val (.int b3), .val (.int (0 : Int32)), .val (.ref b23), .val (.ref rr), .unset, .unset, .unset, .unset, .unset] [(.int (2 : Int32)), (.ref b23)])) X39 hx hZ e39 f40_162 (j := (2 : Int32)) (v := (.int b2)) (by decide) (by decide) rfl rfl rfl (hb hby at_142))
    show Win p e below _ T39 (mkF mt 143 #[.val (.int t_), .val (.int first), .val (.int rest_), .val (.int sel), .val (.int tag), .val (.int b0), .val (.int b1), .val (.int b2), .val (.int b3), .val (.int (0 : Int32)), .val (.ref b23), .val (.ref rr), .unset, .unset, .unset, .unset, .unset] [(.int b2)])
    refine Win.st ?_ (fun tq kq => XS.iload X39.here hx rfl (hb hby at_143) rfl kq)
    show Win p e below _ T39 (mkF mt 145 #[.val (.int t_), .val (.int first), .val (.int rest_), .val (.int sel), .val (.int tag), .val (.int b0), .val (.int b1), .val (.int b2), .val (.int b3), .val (.int (0 : Int32)), .val (.ref b23), .val (.ref rr), .unset, .unset, .unset, .unset, .unset] [(.int b2), (.int b2)])
    refine Win.st ?_ (fun tq kq => XS.icmpNo X39.here hx rfl (hb hby at_145) rfl (teq (rfl : b2 = b2)).2 kq)
    show Win p e below _ T39 (mkF mt 148 #[.val (.int t_), .val (.int first), .val (.int rest_), .val (.int sel), .val (.int tag), .val (.int b0), .val (.int b1), .val (.int b2), .val (.int b3), .val (.int (0 : Int32)), .val (.ref b23), .val (.ref rr), .unset, .unset, .unset, .unset, .unset] [])
    refine Win.st ?_ (fun tq kq => XS.aload X39.here hx rfl (hb hby at_148) rfl rfl kq)
    show Win p e below _ T39 (mkF mt 150 #[.val (.int t_), .val (.int first), .val (.int rest_), .val (.int sel), .val (.int tag), .val (.int b0), .val (.int b1), .val (.int b2), .val (.int b3), .val (.int (0 : Int32)), .val (.ref b23), .val (.ref rr), .unset, .unset, .unset, .unset, .unset] [(.ref b23)])
    refine Win.st ?_ (fun tq kq => XS.iconst X39.here hx rfl (hb hby at_150) kq)
    show Win p e below _ T39 (mkF mt 151 #[.val (.int t_), .val (.int first), .val (.int rest_), .val (.int sel), .val (.int tag), .val (.int b0), .val (.int b1), .val (.int b2), .val (.int b3), .val (.int (0 : Int32)), .val (.ref b23), .val (.ref rr), .unset, .unset, .unset, .unset, .unset] [(.int (3 : Int32)), (.ref b23)])
    refine Win.st ?_ (own_bald (g := (mkF mt 151 #[.val (.int t_), .val (.int first), .val (.int rest_), .val (.int sel), .val (.int tag), .val (.int b0), .val (.int b1), .val (.int b2), .val (.int b3), .val (.int (0 : Int32)), .val (.ref b23), .val (.ref rr), .unset, .unset, .unset, .unset, .unset] [(.int (3 : Int32)), (.ref b23)])) X39 hx hZ e39 f40_162 (j := (3 : Int32)) (v := (.int b3)) (by decide) (by decide) rfl rfl rfl (hb hby at_151))
    show Win p e below _ T39 (mkF mt 152 #[.val (.int t_), .val (.int first), .val (.int rest_), .val (.int sel), .val (.int tag), .val (.int b0), .val (.int b1), .val (.int b2), .val (.int b3), .val (.int (0 : Int32)), .val (.ref b23), .val (.ref rr), .unset, .unset, .unset, .unset, .unset] [(.int b3)])
    refine Win.st ?_ (fun tq kq => XS.iload X39.here hx rfl (hb hby at_152) rfl kq)
    show Win p e below _ T39 (mkF mt 154 #[.val (.int t_), .val (.int first), .val (.int rest_), .val (.int sel), .val (.int tag), .val (.int b0), .val (.int b1), .val (.int b2), .val (.int b3), .val (.int (0 : Int32)), .val (.ref b23), .val (.ref rr), .unset, .unset, .unset, .unset, .unset] [(.int b3), (.int b3)])
    refine Win.st ?_ (fun tq kq => XS.icmpYes X39.here hx rfl (pc0 := 154) (pc' := 159) rfl (hb hby at_154) rfl (teq (rfl : b3 = b3)).1 (by decide) (by decide) kq)
    show Win p e below _ T39 (mkF mt 159 #[.val (.int t_), .val (.int first), .val (.int rest_), .val (.int sel), .val (.int tag), .val (.int b0), .val (.int b1), .val (.int b2), .val (.int b3), .val (.int (0 : Int32)), .val (.ref b23), .val (.ref rr), .unset, .unset, .unset, .unset, .unset] [])
    refine Win.st ?_ (fun tq kq => XS.aload X39.here hx rfl (hb hby at_159) rfl rfl kq)
    show Win p e below _ T39 (mkF mt 161 #[.val (.int t_), .val (.int first), .val (.int rest_), .val (.int sel), .val (.int tag), .val (.int b0), .val (.int b1), .val (.int b2), .val (.int b3), .val (.int (0 : Int32)), .val (.ref b23), .val (.ref rr), .unset, .unset, .unset, .unset, .unset] [(.ref rr)])
    refine Win.st ?_ (fun tq kq => XS.iconst X39.here hx rfl (hb hby at_161) kq)
    show Win p e below _ T39 (mkF mt 162 #[.val (.int t_), .val (.int first), .val (.int rest_), .val (.int sel), .val (.int tag), .val (.int b0), .val (.int b1), .val (.int b2), .val (.int b3), .val (.int (0 : Int32)), .val (.ref b23), .val (.ref rr), .unset, .unset, .unset, .unset, .unset] [(.int (1 : Int32)), (.ref rr)])
    refine Win.st ?_ (own_bald (g := (mkF mt 162 #[.val (.int t_), .val (.int first), .val (.int rest_), .val (.int sel), .val (.int tag), .val (.int b0), .val (.int b1), .val (.int b2), .val (.int b3), .val (.int (0 : Int32)), .val (.ref b23), .val (.ref rr), .unset, .unset, .unset, .unset, .unset] [(.int (1 : Int32)), (.ref rr)])) X39 hx hZ e39 V39 (j := (1 : Int32)) (v := (.int b1)) (by decide) (by decide) rfl rfl rfl (hb hby at_162))
    show Win p e below _ T39 (mkF mt 163 #[.val (.int t_), .val (.int first), .val (.int rest_), .val (.int sel), .val (.int tag), .val (.int b0), .val (.int b1), .val (.int b2), .val (.int b3), .val (.int (0 : Int32)), .val (.ref b23), .val (.ref rr), .unset, .unset, .unset, .unset, .unset] [(.int b1)])
    refine Win.st ?_ (fun tq kq => XS.iload X39.here hx rfl (hb hby at_163) rfl kq)
    show Win p e below _ T39 (mkF mt 165 #[.val (.int t_), .val (.int first), .val (.int rest_), .val (.int sel), .val (.int tag), .val (.int b0), .val (.int b1), .val (.int b2), .val (.int b3), .val (.int (0 : Int32)), .val (.ref b23), .val (.ref rr), .unset, .unset, .unset, .unset, .unset] [(.int b1), (.int b1)])
    refine Win.st ?_ (fun tq kq => XS.icmpNo X39.here hx rfl (hb hby at_165) rfl (teq (rfl : b1 = b1)).2 kq)
    show Win p e below _ T39 (mkF mt 168 #[.val (.int t_), .val (.int first), .val (.int rest_), .val (.int sel), .val (.int tag), .val (.int b0), .val (.int b1), .val (.int b2), .val (.int b3), .val (.int (0 : Int32)), .val (.ref b23), .val (.ref rr), .unset, .unset, .unset, .unset, .unset] [])
    refine Win.st ?_ (fun tq kq => XS.aload X39.here hx rfl (hb hby at_168) rfl rfl kq)
    show Win p e below _ T39 (mkF mt 170 #[.val (.int t_), .val (.int first), .val (.int rest_), .val (.int sel), .val (.int tag), .val (.int b0), .val (.int b1), .val (.int b2), .val (.int b3), .val (.int (0 : Int32)), .val (.ref b23), .val (.ref rr), .unset, .unset, .unset, .unset, .unset] [(.ref rr)])
    refine Win.st ?_ (fun tq kq => XS.iconst X39.here hx rfl (hb hby at_170) kq)
    show Win p e below _ T39 (mkF mt 171 #[.val (.int t_), .val (.int first), .val (.int rest_), .val (.int sel), .val (.int tag), .val (.int b0), .val (.int b1), .val (.int b2), .val (.int b3), .val (.int (0 : Int32)), .val (.ref b23), .val (.ref rr), .unset, .unset, .unset, .unset, .unset] [(.int (2 : Int32)), (.ref rr)])
    refine Win.st ?_ (own_bald (g := (mkF mt 171 #[.val (.int t_), .val (.int first), .val (.int rest_), .val (.int sel), .val (.int tag), .val (.int b0), .val (.int b1), .val (.int b2), .val (.int b3), .val (.int (0 : Int32)), .val (.ref b23), .val (.ref rr), .unset, .unset, .unset, .unset, .unset] [(.int (2 : Int32)), (.ref rr)])) X39 hx hZ e39 V39 (j := (2 : Int32)) (v := (.int b2)) (by decide) (by decide) rfl rfl rfl (hb hby at_171))
    show Win p e below _ T39 (mkF mt 172 #[.val (.int t_), .val (.int first), .val (.int rest_), .val (.int sel), .val (.int tag), .val (.int b0), .val (.int b1), .val (.int b2), .val (.int b3), .val (.int (0 : Int32)), .val (.ref b23), .val (.ref rr), .unset, .unset, .unset, .unset, .unset] [(.int b2)])
    refine Win.st ?_ (fun tq kq => XS.iload X39.here hx rfl (hb hby at_172) rfl kq)
    show Win p e below _ T39 (mkF mt 174 #[.val (.int t_), .val (.int first), .val (.int rest_), .val (.int sel), .val (.int tag), .val (.int b0), .val (.int b1), .val (.int b2), .val (.int b3), .val (.int (0 : Int32)), .val (.ref b23), .val (.ref rr), .unset, .unset, .unset, .unset, .unset] [(.int b2), (.int b2)])
    refine Win.st ?_ (fun tq kq => XS.icmpNo X39.here hx rfl (hb hby at_174) rfl (teq (rfl : b2 = b2)).2 kq)
    show Win p e below _ T39 (mkF mt 177 #[.val (.int t_), .val (.int first), .val (.int rest_), .val (.int sel), .val (.int tag), .val (.int b0), .val (.int b1), .val (.int b2), .val (.int b3), .val (.int (0 : Int32)), .val (.ref b23), .val (.ref rr), .unset, .unset, .unset, .unset, .unset] [])
    refine Win.st ?_ (fun tq kq => XS.aload X39.here hx rfl (hb hby at_177) rfl rfl kq)
    show Win p e below _ T39 (mkF mt 179 #[.val (.int t_), .val (.int first), .val (.int rest_), .val (.int sel), .val (.int tag), .val (.int b0), .val (.int b1), .val (.int b2), .val (.int b3), .val (.int (0 : Int32)), .val (.ref b23), .val (.ref rr), .unset, .unset, .unset, .unset, .unset] [(.ref rr)])
    refine Win.st ?_ (fun tq kq => XS.iconst X39.here hx rfl (hb hby at_179) kq)
    show Win p e below _ T39 (mkF mt 180 #[.val (.int t_), .val (.int first), .val (.int rest_), .val (.int sel), .val (.int tag), .val (.int b0), .val (.int b1), .val (.int b2), .val (.int b3), .val (.int (0 : Int32)), .val (.ref b23), .val (.ref rr), .unset, .unset, .unset, .unset, .unset] [(.int (3 : Int32)), (.ref rr)])
    refine Win.st ?_ (own_bald (g := (mkF mt 180 #[.val (.int t_), .val (.int first), .val (.int rest_), .val (.int sel), .val (.int tag), .val (.int b0), .val (.int b1), .val (.int b2), .val (.int b3), .val (.int (0 : Int32)), .val (.ref b23), .val (.ref rr), .unset, .unset, .unset, .unset, .unset] [(.int (3 : Int32)), (.ref rr)])) X39 hx hZ e39 V39 (j := (3 : Int32)) (v := (.int b3)) (by decide) (by decide) rfl rfl rfl (hb hby at_180))
    show Win p e below _ T39 (mkF mt 181 #[.val (.int t_), .val (.int first), .val (.int rest_), .val (.int sel), .val (.int tag), .val (.int b0), .val (.int b1), .val (.int b2), .val (.int b3), .val (.int (0 : Int32)), .val (.ref b23), .val (.ref rr), .unset, .unset, .unset, .unset, .unset] [(.int b3)])
    refine Win.st ?_ (fun tq kq => XS.iload X39.here hx rfl (hb hby at_181) rfl kq)
    show Win p e below _ T39 (mkF mt 183 #[.val (.int t_), .val (.int first), .val (.int rest_), .val (.int sel), .val (.int tag), .val (.int b0), .val (.int b1), .val (.int b2), .val (.int b3), .val (.int (0 : Int32)), .val (.ref b23), .val (.ref rr), .unset, .unset, .unset, .unset, .unset] [(.int b3), (.int b3)])
    refine Win.st ?_ (fun tq kq => XS.icmpYes X39.here hx rfl (pc0 := 183) (pc' := 188) rfl (hb hby at_183) rfl (teq (rfl : b3 = b3)).1 (by decide) (by decide) kq)
    show Win p e below _ T39 (mkF mt 188 #[.val (.int t_), .val (.int first), .val (.int rest_), .val (.int sel), .val (.int tag), .val (.int b0), .val (.int b1), .val (.int b2), .val (.int b3), .val (.int (0 : Int32)), .val (.ref b23), .val (.ref rr), .unset, .unset, .unset, .unset, .unset] [])
    refine Win.st ?_ (fun tq kq => XS.aload X39.here hx rfl (hb hby at_188) rfl rfl kq)
    show Win p e below _ T39 (mkF mt 190 #[.val (.int t_), .val (.int first), .val (.int rest_), .val (.int sel), .val (.int tag), .val (.int b0), .val (.int b1), .val (.int b2), .val (.int b3), .val (.int (0 : Int32)), .val (.ref b23), .val (.ref rr), .unset, .unset, .unset, .unset, .unset] [(.ref rr)])
    refine Win.st ?_ (fun tq kq => XS.iconst X39.here hx rfl (hb hby at_190) kq)
    show Win p e below _ T39 (mkF mt 191 #[.val (.int t_), .val (.int first), .val (.int rest_), .val (.int sel), .val (.int tag), .val (.int b0), .val (.int b1), .val (.int b2), .val (.int b3), .val (.int (0 : Int32)), .val (.ref b23), .val (.ref rr), .unset, .unset, .unset, .unset, .unset] [(.int (0 : Int32)), (.ref rr)])
    refine Win.st ?_ (own_bald (g := (mkF mt 191 #[.val (.int t_), .val (.int first), .val (.int rest_), .val (.int sel), .val (.int tag), .val (.int b0), .val (.int b1), .val (.int b2), .val (.int b3), .val (.int (0 : Int32)), .val (.ref b23), .val (.ref rr), .unset, .unset, .unset, .unset, .unset] [(.int (0 : Int32)), (.ref rr)])) X39 hx hZ e39 V39 (j := (0 : Int32)) (v := (.int ((((128 : Int32) ||| (b0 &&& (32 : Int32))) ||| tag).toInt8.toInt32))) (by decide) (by decide) rfl rfl rfl (hb hby at_191))
    show Win p e below _ T39 (mkF mt 192 #[.val (.int t_), .val (.int first), .val (.int rest_), .val (.int sel), .val (.int tag), .val (.int b0), .val (.int b1), .val (.int b2), .val (.int b3), .val (.int (0 : Int32)), .val (.ref b23), .val (.ref rr), .unset, .unset, .unset, .unset, .unset] [(.int ((((128 : Int32) ||| (b0 &&& (32 : Int32))) ||| tag).toInt8.toInt32))])
    refine Win.st ?_ (fun tq kq => XS.sipush X39.here hx rfl (hb hby at_192) kq)
    show Win p e below _ T39 (mkF mt 195 #[.val (.int t_), .val (.int first), .val (.int rest_), .val (.int sel), .val (.int tag), .val (.int b0), .val (.int b1), .val (.int b2), .val (.int b3), .val (.int (0 : Int32)), .val (.ref b23), .val (.ref rr), .unset, .unset, .unset, .unset, .unset] [(.int (255 : Int32)), (.int ((((128 : Int32) ||| (b0 &&& (32 : Int32))) ||| tag).toInt8.toInt32))])
    refine Win.st ?_ (fun tq kq => XS.iand X39.here hx rfl (hb hby at_195) rfl kq)
    show Win p e below _ T39 (mkF mt 196 #[.val (.int t_), .val (.int first), .val (.int rest_), .val (.int sel), .val (.int tag), .val (.int b0), .val (.int b1), .val (.int b2), .val (.int b3), .val (.int (0 : Int32)), .val (.ref b23), .val (.ref rr), .unset, .unset, .unset, .unset, .unset] [(.int (((((128 : Int32) ||| (b0 &&& (32 : Int32))) ||| tag).toInt8.toInt32) &&& (255 : Int32)))])
    refine Win.st ?_ (fun tq kq => XS.istore X39.here hx rfl (hb hby at_196) rfl (l' := #[.val (.int t_), .val (.int first), .val (.int rest_), .val (.int sel), .val (.int tag), .val (.int b0), .val (.int b1), .val (.int b2), .val (.int b3), .val (.int (0 : Int32)), .val (.ref b23), .val (.ref rr), .val (.int (((((128 : Int32) ||| (b0 &&& (32 : Int32))) ||| tag).toInt8.toInt32) &&& (255 : Int32))), .unset, .unset, .unset, .unset]) rfl kq)
    show Win p e below _ T39 (mkF mt 198 #[.val (.int t_), .val (.int first), .val (.int rest_), .val (.int sel), .val (.int tag), .val (.int b0), .val (.int b1), .val (.int b2), .val (.int b3), .val (.int (0 : Int32)), .val (.ref b23), .val (.ref rr), .val (.int (((((128 : Int32) ||| (b0 &&& (32 : Int32))) ||| tag).toInt8.toInt32) &&& (255 : Int32))), .unset, .unset, .unset, .unset] [])
    refine Win.st ?_ (fun tq kq => XS.iload X39.here hx rfl (hb hby at_198) rfl kq)
    show Win p e below _ T39 (mkF mt 200 #[.val (.int t_), .val (.int first), .val (.int rest_), .val (.int sel), .val (.int tag), .val (.int b0), .val (.int b1), .val (.int b2), .val (.int b3), .val (.int (0 : Int32)), .val (.ref b23), .val (.ref rr), .val (.int (((((128 : Int32) ||| (b0 &&& (32 : Int32))) ||| tag).toInt8.toInt32) &&& (255 : Int32))), .unset, .unset, .unset, .unset] [(.int (((((128 : Int32) ||| (b0 &&& (32 : Int32))) ||| tag).toInt8.toInt32) &&& (255 : Int32)))])
    refine Win.st ?_ (fun tq kq => XS.bipush X39.here hx rfl (hb hby at_200) kq)
    show Win p e below _ T39 (mkF mt 202 #[.val (.int t_), .val (.int first), .val (.int rest_), .val (.int sel), .val (.int tag), .val (.int b0), .val (.int b1), .val (.int b2), .val (.int b3), .val (.int (0 : Int32)), .val (.ref b23), .val (.ref rr), .val (.int (((((128 : Int32) ||| (b0 &&& (32 : Int32))) ||| tag).toInt8.toInt32) &&& (255 : Int32))), .unset, .unset, .unset, .unset] [(.int (6 : Int32)), (.int (((((128 : Int32) ||| (b0 &&& (32 : Int32))) ||| tag).toInt8.toInt32) &&& (255 : Int32)))])
    refine Win.st ?_ (fun tq kq => XS.iushr X39.here hx rfl (hb hby at_202) rfl kq)
    show Win p e below _ T39 (mkF mt 203 #[.val (.int t_), .val (.int first), .val (.int rest_), .val (.int sel), .val (.int tag), .val (.int b0), .val (.int b1), .val (.int b2), .val (.int b3), .val (.int (0 : Int32)), .val (.ref b23), .val (.ref rr), .val (.int (((((128 : Int32) ||| (b0 &&& (32 : Int32))) ||| tag).toInt8.toInt32) &&& (255 : Int32))), .unset, .unset, .unset, .unset] [(.int (((((((128 : Int32) ||| (b0 &&& (32 : Int32))) ||| tag).toInt8.toInt32) &&& (255 : Int32)).toUInt32 >>> ((6 : Int32) &&& 31).toUInt32).toInt32))])
    refine Win.st ?_ (fun tq kq => XS.istore X39.here hx rfl (hb hby at_203) rfl (l' := #[.val (.int t_), .val (.int first), .val (.int rest_), .val (.int sel), .val (.int tag), .val (.int b0), .val (.int b1), .val (.int b2), .val (.int b3), .val (.int (0 : Int32)), .val (.ref b23), .val (.ref rr), .val (.int (((((128 : Int32) ||| (b0 &&& (32 : Int32))) ||| tag).toInt8.toInt32) &&& (255 : Int32))), .val (.int (((((((128 : Int32) ||| (b0 &&& (32 : Int32))) ||| tag).toInt8.toInt32) &&& (255 : Int32)).toUInt32 >>> ((6 : Int32) &&& 31).toUInt32).toInt32)), .unset, .unset, .unset]) rfl kq)
    show Win p e below _ T39 (mkF mt 205 #[.val (.int t_), .val (.int first), .val (.int rest_), .val (.int sel), .val (.int tag), .val (.int b0), .val (.int b1), .val (.int b2), .val (.int b3), .val (.int (0 : Int32)), .val (.ref b23), .val (.ref rr), .val (.int (((((128 : Int32) ||| (b0 &&& (32 : Int32))) ||| tag).toInt8.toInt32) &&& (255 : Int32))), .val (.int (((((((128 : Int32) ||| (b0 &&& (32 : Int32))) ||| tag).toInt8.toInt32) &&& (255 : Int32)).toUInt32 >>> ((6 : Int32) &&& 31).toUInt32).toInt32)), .unset, .unset, .unset] [])
    refine Win.st ?_ (fun tq kq => XS.iload X39.here hx rfl (hb hby at_205) rfl kq)
    show Win p e below _ T39 (mkF mt 207 #[.val (.int t_), .val (.int first), .val (.int rest_), .val (.int sel), .val (.int tag), .val (.int b0), .val (.int b1), .val (.int b2), .val (.int b3), .val (.int (0 : Int32)), .val (.ref b23), .val (.ref rr), .val (.int (((((128 : Int32) ||| (b0 &&& (32 : Int32))) ||| tag).toInt8.toInt32) &&& (255 : Int32))), .val (.int (((((((128 : Int32) ||| (b0 &&& (32 : Int32))) ||| tag).toInt8.toInt32) &&& (255 : Int32)).toUInt32 >>> ((6 : Int32) &&& 31).toUInt32).toInt32)), .unset, .unset, .unset] [(.int (((((128 : Int32) ||| (b0 &&& (32 : Int32))) ||| tag).toInt8.toInt32) &&& (255 : Int32)))])
    refine Win.st ?_ (fun tq kq => XS.iconst X39.here hx rfl (hb hby at_207) kq)
    show Win p e below _ T39 (mkF mt 208 #[.val (.int t_), .val (.int first), .val (.int rest_), .val (.int sel), .val (.int tag), .val (.int b0), .val (.int b1), .val (.int b2), .val (.int b3), .val (.int (0 : Int32)), .val (.ref b23), .val (.ref rr), .val (.int (((((128 : Int32) ||| (b0 &&& (32 : Int32))) ||| tag).toInt8.toInt32) &&& (255 : Int32))), .val (.int (((((((128 : Int32) ||| (b0 &&& (32 : Int32))) ||| tag).toInt8.toInt32) &&& (255 : Int32)).toUInt32 >>> ((6 : Int32) &&& 31).toUInt32).toInt32)), .unset, .unset, .unset] [(.int (5 : Int32)), (.int (((((128 : Int32) ||| (b0 &&& (32 : Int32))) ||| tag).toInt8.toInt32) &&& (255 : Int32)))])
    refine Win.st ?_ (fun tq kq => XS.iushr X39.here hx rfl (hb hby at_208) rfl kq)
    show Win p e below _ T39 (mkF mt 209 #[.val (.int t_), .val (.int first), .val (.int rest_), .val (.int sel), .val (.int tag), .val (.int b0), .val (.int b1), .val (.int b2), .val (.int b3), .val (.int (0 : Int32)), .val (.ref b23), .val (.ref rr), .val (.int (((((128 : Int32) ||| (b0 &&& (32 : Int32))) ||| tag).toInt8.toInt32) &&& (255 : Int32))), .val (.int (((((((128 : Int32) ||| (b0 &&& (32 : Int32))) ||| tag).toInt8.toInt32) &&& (255 : Int32)).toUInt32 >>> ((6 : Int32) &&& 31).toUInt32).toInt32)), .unset, .unset, .unset] [(.int (((((((128 : Int32) ||| (b0 &&& (32 : Int32))) ||| tag).toInt8.toInt32) &&& (255 : Int32)).toUInt32 >>> ((5 : Int32) &&& 31).toUInt32).toInt32))])
    refine Win.st ?_ (fun tq kq => XS.iconst X39.here hx rfl (hb hby at_209) kq)
    show Win p e below _ T39 (mkF mt 210 #[.val (.int t_), .val (.int first), .val (.int rest_), .val (.int sel), .val (.int tag), .val (.int b0), .val (.int b1), .val (.int b2), .val (.int b3), .val (.int (0 : Int32)), .val (.ref b23), .val (.ref rr), .val (.int (((((128 : Int32) ||| (b0 &&& (32 : Int32))) ||| tag).toInt8.toInt32) &&& (255 : Int32))), .val (.int (((((((128 : Int32) ||| (b0 &&& (32 : Int32))) ||| tag).toInt8.toInt32) &&& (255 : Int32)).toUInt32 >>> ((6 : Int32) &&& 31).toUInt32).toInt32)), .unset, .unset, .unset] [(.int (1 : Int32)), (.int (((((((128 : Int32) ||| (b0 &&& (32 : Int32))) ||| tag).toInt8.toInt32) &&& (255 : Int32)).toUInt32 >>> ((5 : Int32) &&& 31).toUInt32).toInt32))])
    refine Win.st ?_ (fun tq kq => XS.iand X39.here hx rfl (hb hby at_210) rfl kq)
    show Win p e below _ T39 (mkF mt 211 #[.val (.int t_), .val (.int first), .val (.int rest_), .val (.int sel), .val (.int tag), .val (.int b0), .val (.int b1), .val (.int b2), .val (.int b3), .val (.int (0 : Int32)), .val (.ref b23), .val (.ref rr), .val (.int (((((128 : Int32) ||| (b0 &&& (32 : Int32))) ||| tag).toInt8.toInt32) &&& (255 : Int32))), .val (.int (((((((128 : Int32) ||| (b0 &&& (32 : Int32))) ||| tag).toInt8.toInt32) &&& (255 : Int32)).toUInt32 >>> ((6 : Int32) &&& 31).toUInt32).toInt32)), .unset, .unset, .unset] [(.int ((((((((128 : Int32) ||| (b0 &&& (32 : Int32))) ||| tag).toInt8.toInt32) &&& (255 : Int32)).toUInt32 >>> ((5 : Int32) &&& 31).toUInt32).toInt32) &&& (1 : Int32)))])
    refine Win.st ?_ (fun tq kq => XS.istore X39.here hx rfl (hb hby at_211) rfl (l' := #[.val (.int t_), .val (.int first), .val (.int rest_), .val (.int sel), .val (.int tag), .val (.int b0), .val (.int b1), .val (.int b2), .val (.int b3), .val (.int (0 : Int32)), .val (.ref b23), .val (.ref rr), .val (.int (((((128 : Int32) ||| (b0 &&& (32 : Int32))) ||| tag).toInt8.toInt32) &&& (255 : Int32))), .val (.int (((((((128 : Int32) ||| (b0 &&& (32 : Int32))) ||| tag).toInt8.toInt32) &&& (255 : Int32)).toUInt32 >>> ((6 : Int32) &&& 31).toUInt32).toInt32)), .val (.int ((((((((128 : Int32) ||| (b0 &&& (32 : Int32))) ||| tag).toInt8.toInt32) &&& (255 : Int32)).toUInt32 >>> ((5 : Int32) &&& 31).toUInt32).toInt32) &&& (1 : Int32))), .unset, .unset]) rfl kq)
    show Win p e below _ T39 (mkF mt 213 #[.val (.int t_), .val (.int first), .val (.int rest_), .val (.int sel), .val (.int tag), .val (.int b0), .val (.int b1), .val (.int b2), .val (.int b3), .val (.int (0 : Int32)), .val (.ref b23), .val (.ref rr), .val (.int (((((128 : Int32) ||| (b0 &&& (32 : Int32))) ||| tag).toInt8.toInt32) &&& (255 : Int32))), .val (.int (((((((128 : Int32) ||| (b0 &&& (32 : Int32))) ||| tag).toInt8.toInt32) &&& (255 : Int32)).toUInt32 >>> ((6 : Int32) &&& 31).toUInt32).toInt32)), .val (.int ((((((((128 : Int32) ||| (b0 &&& (32 : Int32))) ||| tag).toInt8.toInt32) &&& (255 : Int32)).toUInt32 >>> ((5 : Int32) &&& 31).toUInt32).toInt32) &&& (1 : Int32))), .unset, .unset] [])
    refine Win.st ?_ (fun tq kq => XS.iload X39.here hx rfl (hb hby at_213) rfl kq)
    show Win p e below _ T39 (mkF mt 215 #[.val (.int t_), .val (.int first), .val (.int rest_), .val (.int sel), .val (.int tag), .val (.int b0), .val (.int b1), .val (.int b2), .val (.int b3), .val (.int (0 : Int32)), .val (.ref b23), .val (.ref rr), .val (.int (((((128 : Int32) ||| (b0 &&& (32 : Int32))) ||| tag).toInt8.toInt32) &&& (255 : Int32))), .val (.int (((((((128 : Int32) ||| (b0 &&& (32 : Int32))) ||| tag).toInt8.toInt32) &&& (255 : Int32)).toUInt32 >>> ((6 : Int32) &&& 31).toUInt32).toInt32)), .val (.int ((((((((128 : Int32) ||| (b0 &&& (32 : Int32))) ||| tag).toInt8.toInt32) &&& (255 : Int32)).toUInt32 >>> ((5 : Int32) &&& 31).toUInt32).toInt32) &&& (1 : Int32))), .unset, .unset] [(.int b0)])
    refine Win.st ?_ (fun tq kq => XS.sipush X39.here hx rfl (hb hby at_215) kq)
    show Win p e below _ T39 (mkF mt 218 #[.val (.int t_), .val (.int first), .val (.int rest_), .val (.int sel), .val (.int tag), .val (.int b0), .val (.int b1), .val (.int b2), .val (.int b3), .val (.int (0 : Int32)), .val (.ref b23), .val (.ref rr), .val (.int (((((128 : Int32) ||| (b0 &&& (32 : Int32))) ||| tag).toInt8.toInt32) &&& (255 : Int32))), .val (.int (((((((128 : Int32) ||| (b0 &&& (32 : Int32))) ||| tag).toInt8.toInt32) &&& (255 : Int32)).toUInt32 >>> ((6 : Int32) &&& 31).toUInt32).toInt32)), .val (.int ((((((((128 : Int32) ||| (b0 &&& (32 : Int32))) ||| tag).toInt8.toInt32) &&& (255 : Int32)).toUInt32 >>> ((5 : Int32) &&& 31).toUInt32).toInt32) &&& (1 : Int32))), .unset, .unset] [(.int (255 : Int32)), (.int b0)])
    refine Win.st ?_ (fun tq kq => XS.iand X39.here hx rfl (hb hby at_218) rfl kq)
    show Win p e below _ T39 (mkF mt 219 #[.val (.int t_), .val (.int first), .val (.int rest_), .val (.int sel), .val (.int tag), .val (.int b0), .val (.int b1), .val (.int b2), .val (.int b3), .val (.int (0 : Int32)), .val (.ref b23), .val (.ref rr), .val (.int (((((128 : Int32) ||| (b0 &&& (32 : Int32))) ||| tag).toInt8.toInt32) &&& (255 : Int32))), .val (.int (((((((128 : Int32) ||| (b0 &&& (32 : Int32))) ||| tag).toInt8.toInt32) &&& (255 : Int32)).toUInt32 >>> ((6 : Int32) &&& 31).toUInt32).toInt32)), .val (.int ((((((((128 : Int32) ||| (b0 &&& (32 : Int32))) ||| tag).toInt8.toInt32) &&& (255 : Int32)).toUInt32 >>> ((5 : Int32) &&& 31).toUInt32).toInt32) &&& (1 : Int32))), .unset, .unset] [(.int (b0 &&& (255 : Int32)))])
    refine Win.st ?_ (fun tq kq => XS.iconst X39.here hx rfl (hb hby at_219) kq)
    show Win p e below _ T39 (mkF mt 220 #[.val (.int t_), .val (.int first), .val (.int rest_), .val (.int sel), .val (.int tag), .val (.int b0), .val (.int b1), .val (.int b2), .val (.int b3), .val (.int (0 : Int32)), .val (.ref b23), .val (.ref rr), .val (.int (((((128 : Int32) ||| (b0 &&& (32 : Int32))) ||| tag).toInt8.toInt32) &&& (255 : Int32))), .val (.int (((((((128 : Int32) ||| (b0 &&& (32 : Int32))) ||| tag).toInt8.toInt32) &&& (255 : Int32)).toUInt32 >>> ((6 : Int32) &&& 31).toUInt32).toInt32)), .val (.int ((((((((128 : Int32) ||| (b0 &&& (32 : Int32))) ||| tag).toInt8.toInt32) &&& (255 : Int32)).toUInt32 >>> ((5 : Int32) &&& 31).toUInt32).toInt32) &&& (1 : Int32))), .unset, .unset] [(.int (5 : Int32)), (.int (b0 &&& (255 : Int32)))])
    refine Win.st ?_ (fun tq kq => XS.iushr X39.here hx rfl (hb hby at_220) rfl kq)
    show Win p e below _ T39 (mkF mt 221 #[.val (.int t_), .val (.int first), .val (.int rest_), .val (.int sel), .val (.int tag), .val (.int b0), .val (.int b1), .val (.int b2), .val (.int b3), .val (.int (0 : Int32)), .val (.ref b23), .val (.ref rr), .val (.int (((((128 : Int32) ||| (b0 &&& (32 : Int32))) ||| tag).toInt8.toInt32) &&& (255 : Int32))), .val (.int (((((((128 : Int32) ||| (b0 &&& (32 : Int32))) ||| tag).toInt8.toInt32) &&& (255 : Int32)).toUInt32 >>> ((6 : Int32) &&& 31).toUInt32).toInt32)), .val (.int ((((((((128 : Int32) ||| (b0 &&& (32 : Int32))) ||| tag).toInt8.toInt32) &&& (255 : Int32)).toUInt32 >>> ((5 : Int32) &&& 31).toUInt32).toInt32) &&& (1 : Int32))), .unset, .unset] [(.int (((b0 &&& (255 : Int32)).toUInt32 >>> ((5 : Int32) &&& 31).toUInt32).toInt32))])
    refine Win.st ?_ (fun tq kq => XS.iconst X39.here hx rfl (hb hby at_221) kq)
    show Win p e below _ T39 (mkF mt 222 #[.val (.int t_), .val (.int first), .val (.int rest_), .val (.int sel), .val (.int tag), .val (.int b0), .val (.int b1), .val (.int b2), .val (.int b3), .val (.int (0 : Int32)), .val (.ref b23), .val (.ref rr), .val (.int (((((128 : Int32) ||| (b0 &&& (32 : Int32))) ||| tag).toInt8.toInt32) &&& (255 : Int32))), .val (.int (((((((128 : Int32) ||| (b0 &&& (32 : Int32))) ||| tag).toInt8.toInt32) &&& (255 : Int32)).toUInt32 >>> ((6 : Int32) &&& 31).toUInt32).toInt32)), .val (.int ((((((((128 : Int32) ||| (b0 &&& (32 : Int32))) ||| tag).toInt8.toInt32) &&& (255 : Int32)).toUInt32 >>> ((5 : Int32) &&& 31).toUInt32).toInt32) &&& (1 : Int32))), .unset, .unset] [(.int (1 : Int32)), (.int (((b0 &&& (255 : Int32)).toUInt32 >>> ((5 : Int32) &&& 31).toUInt32).toInt32))])
    refine Win.st ?_ (fun tq kq => XS.iand X39.here hx rfl (hb hby at_222) rfl kq)
    show Win p e below _ T39 (mkF mt 223 #[.val (.int t_), .val (.int first), .val (.int rest_), .val (.int sel), .val (.int tag), .val (.int b0), .val (.int b1), .val (.int b2), .val (.int b3), .val (.int (0 : Int32)), .val (.ref b23), .val (.ref rr), .val (.int (((((128 : Int32) ||| (b0 &&& (32 : Int32))) ||| tag).toInt8.toInt32) &&& (255 : Int32))), .val (.int (((((((128 : Int32) ||| (b0 &&& (32 : Int32))) ||| tag).toInt8.toInt32) &&& (255 : Int32)).toUInt32 >>> ((6 : Int32) &&& 31).toUInt32).toInt32)), .val (.int ((((((((128 : Int32) ||| (b0 &&& (32 : Int32))) ||| tag).toInt8.toInt32) &&& (255 : Int32)).toUInt32 >>> ((5 : Int32) &&& 31).toUInt32).toInt32) &&& (1 : Int32))), .unset, .unset] [(.int ((((b0 &&& (255 : Int32)).toUInt32 >>> ((5 : Int32) &&& 31).toUInt32).toInt32) &&& (1 : Int32)))])
    refine Win.st ?_ (fun tq kq => XS.istore X39.here hx rfl (hb hby at_223) rfl (l' := #[.val (.int t_), .val (.int first), .val (.int rest_), .val (.int sel), .val (.int tag), .val (.int b0), .val (.int b1), .val (.int b2), .val (.int b3), .val (.int (0 : Int32)), .val (.ref b23), .val (.ref rr), .val (.int (((((128 : Int32) ||| (b0 &&& (32 : Int32))) ||| tag).toInt8.toInt32) &&& (255 : Int32))), .val (.int (((((((128 : Int32) ||| (b0 &&& (32 : Int32))) ||| tag).toInt8.toInt32) &&& (255 : Int32)).toUInt32 >>> ((6 : Int32) &&& 31).toUInt32).toInt32)), .val (.int ((((((((128 : Int32) ||| (b0 &&& (32 : Int32))) ||| tag).toInt8.toInt32) &&& (255 : Int32)).toUInt32 >>> ((5 : Int32) &&& 31).toUInt32).toInt32) &&& (1 : Int32))), .val (.int ((((b0 &&& (255 : Int32)).toUInt32 >>> ((5 : Int32) &&& 31).toUInt32).toInt32) &&& (1 : Int32))), .unset]) rfl kq)
    show Win p e below _ T39 (mkF mt 225 #[.val (.int t_), .val (.int first), .val (.int rest_), .val (.int sel), .val (.int tag), .val (.int b0), .val (.int b1), .val (.int b2), .val (.int b3), .val (.int (0 : Int32)), .val (.ref b23), .val (.ref rr), .val (.int (((((128 : Int32) ||| (b0 &&& (32 : Int32))) ||| tag).toInt8.toInt32) &&& (255 : Int32))), .val (.int (((((((128 : Int32) ||| (b0 &&& (32 : Int32))) ||| tag).toInt8.toInt32) &&& (255 : Int32)).toUInt32 >>> ((6 : Int32) &&& 31).toUInt32).toInt32)), .val (.int ((((((((128 : Int32) ||| (b0 &&& (32 : Int32))) ||| tag).toInt8.toInt32) &&& (255 : Int32)).toUInt32 >>> ((5 : Int32) &&& 31).toUInt32).toInt32) &&& (1 : Int32))), .val (.int ((((b0 &&& (255 : Int32)).toUInt32 >>> ((5 : Int32) &&& 31).toUInt32).toInt32) &&& (1 : Int32))), .unset] [])
    refine Win.st ?_ (fun tq kq => XS.iload X39.here hx rfl (hb hby at_225) rfl kq)
    show Win p e below _ T39 (mkF mt 227 #[.val (.int t_), .val (.int first), .val (.int rest_), .val (.int sel), .val (.int tag), .val (.int b0), .val (.int b1), .val (.int b2), .val (.int b3), .val (.int (0 : Int32)), .val (.ref b23), .val (.ref rr), .val (.int (((((128 : Int32) ||| (b0 &&& (32 : Int32))) ||| tag).toInt8.toInt32) &&& (255 : Int32))), .val (.int (((((((128 : Int32) ||| (b0 &&& (32 : Int32))) ||| tag).toInt8.toInt32) &&& (255 : Int32)).toUInt32 >>> ((6 : Int32) &&& 31).toUInt32).toInt32)), .val (.int ((((((((128 : Int32) ||| (b0 &&& (32 : Int32))) ||| tag).toInt8.toInt32) &&& (255 : Int32)).toUInt32 >>> ((5 : Int32) &&& 31).toUInt32).toInt32) &&& (1 : Int32))), .val (.int ((((b0 &&& (255 : Int32)).toUInt32 >>> ((5 : Int32) &&& 31).toUInt32).toInt32) &&& (1 : Int32))), .unset] [(.int (((((128 : Int32) ||| (b0 &&& (32 : Int32))) ||| tag).toInt8.toInt32) &&& (255 : Int32)))])
    refine Win.st ?_ (fun tq kq => XS.bipush X39.here hx rfl (hb hby at_227) kq)
    show Win p e below _ T39 (mkF mt 229 #[.val (.int t_), .val (.int first), .val (.int rest_), .val (.int sel), .val (.int tag), .val (.int b0), .val (.int b1), .val (.int b2), .val (.int b3), .val (.int (0 : Int32)), .val (.ref b23), .val (.ref rr), .val (.int (((((128 : Int32) ||| (b0 &&& (32 : Int32))) ||| tag).toInt8.toInt32) &&& (255 : Int32))), .val (.int (((((((128 : Int32) ||| (b0 &&& (32 : Int32))) ||| tag).toInt8.toInt32) &&& (255 : Int32)).toUInt32 >>> ((6 : Int32) &&& 31).toUInt32).toInt32)), .val (.int ((((((((128 : Int32) ||| (b0 &&& (32 : Int32))) ||| tag).toInt8.toInt32) &&& (255 : Int32)).toUInt32 >>> ((5 : Int32) &&& 31).toUInt32).toInt32) &&& (1 : Int32))), .val (.int ((((b0 &&& (255 : Int32)).toUInt32 >>> ((5 : Int32) &&& 31).toUInt32).toInt32) &&& (1 : Int32))), .unset] [(.int (31 : Int32)), (.int (((((128 : Int32) ||| (b0 &&& (32 : Int32))) ||| tag).toInt8.toInt32) &&& (255 : Int32)))])
    refine Win.st ?_ (fun tq kq => XS.iand X39.here hx rfl (hb hby at_229) rfl kq)
    show Win p e below _ T39 (mkF mt 230 #[.val (.int t_), .val (.int first), .val (.int rest_), .val (.int sel), .val (.int tag), .val (.int b0), .val (.int b1), .val (.int b2), .val (.int b3), .val (.int (0 : Int32)), .val (.ref b23), .val (.ref rr), .val (.int (((((128 : Int32) ||| (b0 &&& (32 : Int32))) ||| tag).toInt8.toInt32) &&& (255 : Int32))), .val (.int (((((((128 : Int32) ||| (b0 &&& (32 : Int32))) ||| tag).toInt8.toInt32) &&& (255 : Int32)).toUInt32 >>> ((6 : Int32) &&& 31).toUInt32).toInt32)), .val (.int ((((((((128 : Int32) ||| (b0 &&& (32 : Int32))) ||| tag).toInt8.toInt32) &&& (255 : Int32)).toUInt32 >>> ((5 : Int32) &&& 31).toUInt32).toInt32) &&& (1 : Int32))), .val (.int ((((b0 &&& (255 : Int32)).toUInt32 >>> ((5 : Int32) &&& 31).toUInt32).toInt32) &&& (1 : Int32))), .unset] [(.int ((((((128 : Int32) ||| (b0 &&& (32 : Int32))) ||| tag).toInt8.toInt32) &&& (255 : Int32)) &&& (31 : Int32)))])
    refine Win.st ?_ (fun tq kq => XS.istore X39.here hx rfl (hb hby at_230) rfl (l' := #[.val (.int t_), .val (.int first), .val (.int rest_), .val (.int sel), .val (.int tag), .val (.int b0), .val (.int b1), .val (.int b2), .val (.int b3), .val (.int (0 : Int32)), .val (.ref b23), .val (.ref rr), .val (.int (((((128 : Int32) ||| (b0 &&& (32 : Int32))) ||| tag).toInt8.toInt32) &&& (255 : Int32))), .val (.int (((((((128 : Int32) ||| (b0 &&& (32 : Int32))) ||| tag).toInt8.toInt32) &&& (255 : Int32)).toUInt32 >>> ((6 : Int32) &&& 31).toUInt32).toInt32)), .val (.int ((((((((128 : Int32) ||| (b0 &&& (32 : Int32))) ||| tag).toInt8.toInt32) &&& (255 : Int32)).toUInt32 >>> ((5 : Int32) &&& 31).toUInt32).toInt32) &&& (1 : Int32))), .val (.int ((((b0 &&& (255 : Int32)).toUInt32 >>> ((5 : Int32) &&& 31).toUInt32).toInt32) &&& (1 : Int32))), .val (.int ((((((128 : Int32) ||| (b0 &&& (32 : Int32))) ||| tag).toInt8.toInt32) &&& (255 : Int32)) &&& (31 : Int32)))]) rfl kq)
    show Win p e below _ T39 (mkF mt 232 #[.val (.int t_), .val (.int first), .val (.int rest_), .val (.int sel), .val (.int tag), .val (.int b0), .val (.int b1), .val (.int b2), .val (.int b3), .val (.int (0 : Int32)), .val (.ref b23), .val (.ref rr), .val (.int (((((128 : Int32) ||| (b0 &&& (32 : Int32))) ||| tag).toInt8.toInt32) &&& (255 : Int32))), .val (.int (((((((128 : Int32) ||| (b0 &&& (32 : Int32))) ||| tag).toInt8.toInt32) &&& (255 : Int32)).toUInt32 >>> ((6 : Int32) &&& 31).toUInt32).toInt32)), .val (.int ((((((((128 : Int32) ||| (b0 &&& (32 : Int32))) ||| tag).toInt8.toInt32) &&& (255 : Int32)).toUInt32 >>> ((5 : Int32) &&& 31).toUInt32).toInt32) &&& (1 : Int32))), .val (.int ((((b0 &&& (255 : Int32)).toUInt32 >>> ((5 : Int32) &&& 31).toUInt32).toInt32) &&& (1 : Int32))), .val (.int ((((((128 : Int32) ||| (b0 &&& (32 : Int32))) ||| tag).toInt8.toInt32) &&& (255 : Int32)) &&& (31 : Int32)))] [])
    refine Win.st ?_ (fun tq kq => XS.iload X39.here hx rfl (hb hby at_232) rfl kq)
    show Win p e below _ T39 (mkF mt 234 #[.val (.int t_), .val (.int first), .val (.int rest_), .val (.int sel), .val (.int tag), .val (.int b0), .val (.int b1), .val (.int b2), .val (.int b3), .val (.int (0 : Int32)), .val (.ref b23), .val (.ref rr), .val (.int (((((128 : Int32) ||| (b0 &&& (32 : Int32))) ||| tag).toInt8.toInt32) &&& (255 : Int32))), .val (.int (((((((128 : Int32) ||| (b0 &&& (32 : Int32))) ||| tag).toInt8.toInt32) &&& (255 : Int32)).toUInt32 >>> ((6 : Int32) &&& 31).toUInt32).toInt32)), .val (.int ((((((((128 : Int32) ||| (b0 &&& (32 : Int32))) ||| tag).toInt8.toInt32) &&& (255 : Int32)).toUInt32 >>> ((5 : Int32) &&& 31).toUInt32).toInt32) &&& (1 : Int32))), .val (.int ((((b0 &&& (255 : Int32)).toUInt32 >>> ((5 : Int32) &&& 31).toUInt32).toInt32) &&& (1 : Int32))), .val (.int ((((((128 : Int32) ||| (b0 &&& (32 : Int32))) ||| tag).toInt8.toInt32) &&& (255 : Int32)) &&& (31 : Int32)))] [(.int (((((((128 : Int32) ||| (b0 &&& (32 : Int32))) ||| tag).toInt8.toInt32) &&& (255 : Int32)).toUInt32 >>> ((6 : Int32) &&& 31).toUInt32).toInt32))])
    refine Win.st ?_ (fun tq kq => XS.iconst X39.here hx rfl (hb hby at_234) kq)
    show Win p e below _ T39 (mkF mt 235 #[.val (.int t_), .val (.int first), .val (.int rest_), .val (.int sel), .val (.int tag), .val (.int b0), .val (.int b1), .val (.int b2), .val (.int b3), .val (.int (0 : Int32)), .val (.ref b23), .val (.ref rr), .val (.int (((((128 : Int32) ||| (b0 &&& (32 : Int32))) ||| tag).toInt8.toInt32) &&& (255 : Int32))), .val (.int (((((((128 : Int32) ||| (b0 &&& (32 : Int32))) ||| tag).toInt8.toInt32) &&& (255 : Int32)).toUInt32 >>> ((6 : Int32) &&& 31).toUInt32).toInt32)), .val (.int ((((((((128 : Int32) ||| (b0 &&& (32 : Int32))) ||| tag).toInt8.toInt32) &&& (255 : Int32)).toUInt32 >>> ((5 : Int32) &&& 31).toUInt32).toInt32) &&& (1 : Int32))), .val (.int ((((b0 &&& (255 : Int32)).toUInt32 >>> ((5 : Int32) &&& 31).toUInt32).toInt32) &&& (1 : Int32))), .val (.int ((((((128 : Int32) ||| (b0 &&& (32 : Int32))) ||| tag).toInt8.toInt32) &&& (255 : Int32)) &&& (31 : Int32)))] [(.int (2 : Int32)), (.int (((((((128 : Int32) ||| (b0 &&& (32 : Int32))) ||| tag).toInt8.toInt32) &&& (255 : Int32)).toUInt32 >>> ((6 : Int32) &&& 31).toUInt32).toInt32))])
    refine Win.st ?_ (fun tq kq => XS.icmpNo X39.here hx rfl (hb hby at_235) rfl (teq (own_der b0 tag hc0 ht.1 ht.2).1).2 kq)
    show Win p e below _ T39 (mkF mt 238 #[.val (.int t_), .val (.int first), .val (.int rest_), .val (.int sel), .val (.int tag), .val (.int b0), .val (.int b1), .val (.int b2), .val (.int b3), .val (.int (0 : Int32)), .val (.ref b23), .val (.ref rr), .val (.int (((((128 : Int32) ||| (b0 &&& (32 : Int32))) ||| tag).toInt8.toInt32) &&& (255 : Int32))), .val (.int (((((((128 : Int32) ||| (b0 &&& (32 : Int32))) ||| tag).toInt8.toInt32) &&& (255 : Int32)).toUInt32 >>> ((6 : Int32) &&& 31).toUInt32).toInt32)), .val (.int ((((((((128 : Int32) ||| (b0 &&& (32 : Int32))) ||| tag).toInt8.toInt32) &&& (255 : Int32)).toUInt32 >>> ((5 : Int32) &&& 31).toUInt32).toInt32) &&& (1 : Int32))), .val (.int ((((b0 &&& (255 : Int32)).toUInt32 >>> ((5 : Int32) &&& 31).toUInt32).toInt32) &&& (1 : Int32))), .val (.int ((((((128 : Int32) ||| (b0 &&& (32 : Int32))) ||| tag).toInt8.toInt32) &&& (255 : Int32)) &&& (31 : Int32)))] [])
    refine Win.st ?_ (fun tq kq => XS.iload X39.here hx rfl (hb hby at_238) rfl kq)
    show Win p e below _ T39 (mkF mt 240 #[.val (.int t_), .val (.int first), .val (.int rest_), .val (.int sel), .val (.int tag), .val (.int b0), .val (.int b1), .val (.int b2), .val (.int b3), .val (.int (0 : Int32)), .val (.ref b23), .val (.ref rr), .val (.int (((((128 : Int32) ||| (b0 &&& (32 : Int32))) ||| tag).toInt8.toInt32) &&& (255 : Int32))), .val (.int (((((((128 : Int32) ||| (b0 &&& (32 : Int32))) ||| tag).toInt8.toInt32) &&& (255 : Int32)).toUInt32 >>> ((6 : Int32) &&& 31).toUInt32).toInt32)), .val (.int ((((((((128 : Int32) ||| (b0 &&& (32 : Int32))) ||| tag).toInt8.toInt32) &&& (255 : Int32)).toUInt32 >>> ((5 : Int32) &&& 31).toUInt32).toInt32) &&& (1 : Int32))), .val (.int ((((b0 &&& (255 : Int32)).toUInt32 >>> ((5 : Int32) &&& 31).toUInt32).toInt32) &&& (1 : Int32))), .val (.int ((((((128 : Int32) ||| (b0 &&& (32 : Int32))) ||| tag).toInt8.toInt32) &&& (255 : Int32)) &&& (31 : Int32)))] [(.int ((((((((128 : Int32) ||| (b0 &&& (32 : Int32))) ||| tag).toInt8.toInt32) &&& (255 : Int32)).toUInt32 >>> ((5 : Int32) &&& 31).toUInt32).toInt32) &&& (1 : Int32)))])
    refine Win.st ?_ (fun tq kq => XS.iload X39.here hx rfl (hb hby at_240) rfl kq)
    show Win p e below _ T39 (mkF mt 242 #[.val (.int t_), .val (.int first), .val (.int rest_), .val (.int sel), .val (.int tag), .val (.int b0), .val (.int b1), .val (.int b2), .val (.int b3), .val (.int (0 : Int32)), .val (.ref b23), .val (.ref rr), .val (.int (((((128 : Int32) ||| (b0 &&& (32 : Int32))) ||| tag).toInt8.toInt32) &&& (255 : Int32))), .val (.int (((((((128 : Int32) ||| (b0 &&& (32 : Int32))) ||| tag).toInt8.toInt32) &&& (255 : Int32)).toUInt32 >>> ((6 : Int32) &&& 31).toUInt32).toInt32)), .val (.int ((((((((128 : Int32) ||| (b0 &&& (32 : Int32))) ||| tag).toInt8.toInt32) &&& (255 : Int32)).toUInt32 >>> ((5 : Int32) &&& 31).toUInt32).toInt32) &&& (1 : Int32))), .val (.int ((((b0 &&& (255 : Int32)).toUInt32 >>> ((5 : Int32) &&& 31).toUInt32).toInt32) &&& (1 : Int32))), .val (.int ((((((128 : Int32) ||| (b0 &&& (32 : Int32))) ||| tag).toInt8.toInt32) &&& (255 : Int32)) &&& (31 : Int32)))] [(.int ((((b0 &&& (255 : Int32)).toUInt32 >>> ((5 : Int32) &&& 31).toUInt32).toInt32) &&& (1 : Int32))), (.int ((((((((128 : Int32) ||| (b0 &&& (32 : Int32))) ||| tag).toInt8.toInt32) &&& (255 : Int32)).toUInt32 >>> ((5 : Int32) &&& 31).toUInt32).toInt32) &&& (1 : Int32)))])
    refine Win.st ?_ (fun tq kq => XS.icmpNo X39.here hx rfl (hb hby at_242) rfl (teq (own_der b0 tag hc0 ht.1 ht.2).2.1).2 kq)
    show Win p e below _ T39 (mkF mt 245 #[.val (.int t_), .val (.int first), .val (.int rest_), .val (.int sel), .val (.int tag), .val (.int b0), .val (.int b1), .val (.int b2), .val (.int b3), .val (.int (0 : Int32)), .val (.ref b23), .val (.ref rr), .val (.int (((((128 : Int32) ||| (b0 &&& (32 : Int32))) ||| tag).toInt8.toInt32) &&& (255 : Int32))), .val (.int (((((((128 : Int32) ||| (b0 &&& (32 : Int32))) ||| tag).toInt8.toInt32) &&& (255 : Int32)).toUInt32 >>> ((6 : Int32) &&& 31).toUInt32).toInt32)), .val (.int ((((((((128 : Int32) ||| (b0 &&& (32 : Int32))) ||| tag).toInt8.toInt32) &&& (255 : Int32)).toUInt32 >>> ((5 : Int32) &&& 31).toUInt32).toInt32) &&& (1 : Int32))), .val (.int ((((b0 &&& (255 : Int32)).toUInt32 >>> ((5 : Int32) &&& 31).toUInt32).toInt32) &&& (1 : Int32))), .val (.int ((((((128 : Int32) ||| (b0 &&& (32 : Int32))) ||| tag).toInt8.toInt32) &&& (255 : Int32)) &&& (31 : Int32)))] [])
    refine Win.st ?_ (fun tq kq => XS.iload X39.here hx rfl (hb hby at_245) rfl kq)
    show Win p e below _ T39 (mkF mt 247 #[.val (.int t_), .val (.int first), .val (.int rest_), .val (.int sel), .val (.int tag), .val (.int b0), .val (.int b1), .val (.int b2), .val (.int b3), .val (.int (0 : Int32)), .val (.ref b23), .val (.ref rr), .val (.int (((((128 : Int32) ||| (b0 &&& (32 : Int32))) ||| tag).toInt8.toInt32) &&& (255 : Int32))), .val (.int (((((((128 : Int32) ||| (b0 &&& (32 : Int32))) ||| tag).toInt8.toInt32) &&& (255 : Int32)).toUInt32 >>> ((6 : Int32) &&& 31).toUInt32).toInt32)), .val (.int ((((((((128 : Int32) ||| (b0 &&& (32 : Int32))) ||| tag).toInt8.toInt32) &&& (255 : Int32)).toUInt32 >>> ((5 : Int32) &&& 31).toUInt32).toInt32) &&& (1 : Int32))), .val (.int ((((b0 &&& (255 : Int32)).toUInt32 >>> ((5 : Int32) &&& 31).toUInt32).toInt32) &&& (1 : Int32))), .val (.int ((((((128 : Int32) ||| (b0 &&& (32 : Int32))) ||| tag).toInt8.toInt32) &&& (255 : Int32)) &&& (31 : Int32)))] [(.int ((((((128 : Int32) ||| (b0 &&& (32 : Int32))) ||| tag).toInt8.toInt32) &&& (255 : Int32)) &&& (31 : Int32)))])
    refine Win.st ?_ (fun tq kq => XS.iload X39.here hx rfl (hb hby at_247) rfl kq)
    show Win p e below _ T39 (mkF mt 249 #[.val (.int t_), .val (.int first), .val (.int rest_), .val (.int sel), .val (.int tag), .val (.int b0), .val (.int b1), .val (.int b2), .val (.int b3), .val (.int (0 : Int32)), .val (.ref b23), .val (.ref rr), .val (.int (((((128 : Int32) ||| (b0 &&& (32 : Int32))) ||| tag).toInt8.toInt32) &&& (255 : Int32))), .val (.int (((((((128 : Int32) ||| (b0 &&& (32 : Int32))) ||| tag).toInt8.toInt32) &&& (255 : Int32)).toUInt32 >>> ((6 : Int32) &&& 31).toUInt32).toInt32)), .val (.int ((((((((128 : Int32) ||| (b0 &&& (32 : Int32))) ||| tag).toInt8.toInt32) &&& (255 : Int32)).toUInt32 >>> ((5 : Int32) &&& 31).toUInt32).toInt32) &&& (1 : Int32))), .val (.int ((((b0 &&& (255 : Int32)).toUInt32 >>> ((5 : Int32) &&& 31).toUInt32).toInt32) &&& (1 : Int32))), .val (.int ((((((128 : Int32) ||| (b0 &&& (32 : Int32))) ||| tag).toInt8.toInt32) &&& (255 : Int32)) &&& (31 : Int32)))] [(.int tag), (.int ((((((128 : Int32) ||| (b0 &&& (32 : Int32))) ||| tag).toInt8.toInt32) &&& (255 : Int32)) &&& (31 : Int32)))])
    refine Win.st ?_ (fun tq kq => XS.icmpNo X39.here hx rfl (hb hby at_249) rfl (teq (own_der b0 tag hc0 ht.1 ht.2).2.2).2 kq)
    show Win p e below _ T39 (mkF mt 252 #[.val (.int t_), .val (.int first), .val (.int rest_), .val (.int sel), .val (.int tag), .val (.int b0), .val (.int b1), .val (.int b2), .val (.int b3), .val (.int (0 : Int32)), .val (.ref b23), .val (.ref rr), .val (.int (((((128 : Int32) ||| (b0 &&& (32 : Int32))) ||| tag).toInt8.toInt32) &&& (255 : Int32))), .val (.int (((((((128 : Int32) ||| (b0 &&& (32 : Int32))) ||| tag).toInt8.toInt32) &&& (255 : Int32)).toUInt32 >>> ((6 : Int32) &&& 31).toUInt32).toInt32)), .val (.int ((((((((128 : Int32) ||| (b0 &&& (32 : Int32))) ||| tag).toInt8.toInt32) &&& (255 : Int32)).toUInt32 >>> ((5 : Int32) &&& 31).toUInt32).toInt32) &&& (1 : Int32))), .val (.int ((((b0 &&& (255 : Int32)).toUInt32 >>> ((5 : Int32) &&& 31).toUInt32).toInt32) &&& (1 : Int32))), .val (.int ((((((128 : Int32) ||| (b0 &&& (32 : Int32))) ||| tag).toInt8.toInt32) &&& (255 : Int32)) &&& (31 : Int32)))] [])
    refine Win.st ?_ (fun tq kq => XS.iconst X39.here hx rfl (hb hby at_252) kq)
    show Win p e below _ T39 (mkF mt 253 #[.val (.int t_), .val (.int first), .val (.int rest_), .val (.int sel), .val (.int tag), .val (.int b0), .val (.int b1), .val (.int b2), .val (.int b3), .val (.int (0 : Int32)), .val (.ref b23), .val (.ref rr), .val (.int (((((128 : Int32) ||| (b0 &&& (32 : Int32))) ||| tag).toInt8.toInt32) &&& (255 : Int32))), .val (.int (((((((128 : Int32) ||| (b0 &&& (32 : Int32))) ||| tag).toInt8.toInt32) &&& (255 : Int32)).toUInt32 >>> ((6 : Int32) &&& 31).toUInt32).toInt32)), .val (.int ((((((((128 : Int32) ||| (b0 &&& (32 : Int32))) ||| tag).toInt8.toInt32) &&& (255 : Int32)).toUInt32 >>> ((5 : Int32) &&& 31).toUInt32).toInt32) &&& (1 : Int32))), .val (.int ((((b0 &&& (255 : Int32)).toUInt32 >>> ((5 : Int32) &&& 31).toUInt32).toInt32) &&& (1 : Int32))), .val (.int ((((((128 : Int32) ||| (b0 &&& (32 : Int32))) ||| tag).toInt8.toInt32) &&& (255 : Int32)) &&& (31 : Int32)))] [(.int (1 : Int32))])
    refine Win.st ?_ (fun tq kq => XS.goto X39.here hx rfl (pc0 := 253) (pc' := 257) rfl (hb hby at_253) (by decide) (by decide) kq)
    show Win p e below _ T39 (mkF mt 257 #[.val (.int t_), .val (.int first), .val (.int rest_), .val (.int sel), .val (.int tag), .val (.int b0), .val (.int b1), .val (.int b2), .val (.int b3), .val (.int (0 : Int32)), .val (.ref b23), .val (.ref rr), .val (.int (((((128 : Int32) ||| (b0 &&& (32 : Int32))) ||| tag).toInt8.toInt32) &&& (255 : Int32))), .val (.int (((((((128 : Int32) ||| (b0 &&& (32 : Int32))) ||| tag).toInt8.toInt32) &&& (255 : Int32)).toUInt32 >>> ((6 : Int32) &&& 31).toUInt32).toInt32)), .val (.int ((((((((128 : Int32) ||| (b0 &&& (32 : Int32))) ||| tag).toInt8.toInt32) &&& (255 : Int32)).toUInt32 >>> ((5 : Int32) &&& 31).toUInt32).toInt32) &&& (1 : Int32))), .val (.int ((((b0 &&& (255 : Int32)).toUInt32 >>> ((5 : Int32) &&& 31).toUInt32).toInt32) &&& (1 : Int32))), .val (.int ((((((128 : Int32) ||| (b0 &&& (32 : Int32))) ||| tag).toInt8.toInt32) &&& (255 : Int32)) &&& (31 : Int32)))] [(.int (1 : Int32))])
    exact Win.retN X39 hx hlk e39 (t := .boolean) (z' := (1 : Int32)) hrt (by simp) (hb hby at_257) (by decide) (by decide) rfl ⟨rfl, N39⟩
  · refine Win.st ?_ (fun tq kq => XS.ifNo X0.here hx rfl (hb hby at_34) rfl ((if0 _ _).trans (feq hc34).1) kq)
    show Win p e below _ s₁ (mkF mt 37 #[.val (.int t_), .val (.int first), .val (.int rest_), .val (.int sel), .val (.int tag), .val (.int b0), .val (.int b1), .val (.int b2), .val (.int b3), .unset, .unset, .unset, .unset, .unset, .unset, .unset, .unset] [])
    refine Win.st ?_ (fun tq kq => XS.iconst X0.here hx rfl (hb hby at_37) kq)
    show Win p e below _ s₁ (mkF mt 38 #[.val (.int t_), .val (.int first), .val (.int rest_), .val (.int sel), .val (.int tag), .val (.int b0), .val (.int b1), .val (.int b2), .val (.int b3), .unset, .unset, .unset, .unset, .unset, .unset, .unset, .unset] [(.int (1 : Int32))])
    refine Win.st ?_ (fun tq kq => XS.goto X0.here hx rfl (pc0 := 38) (pc' := 42) rfl (hb hby at_38) (by decide) (by decide) kq)
    show Win p e below _ s₁ (mkF mt 42 #[.val (.int t_), .val (.int first), .val (.int rest_), .val (.int sel), .val (.int tag), .val (.int b0), .val (.int b1), .val (.int b2), .val (.int b3), .unset, .unset, .unset, .unset, .unset, .unset, .unset, .unset] [(.int (1 : Int32))])
    refine Win.st ?_ (fun tq kq => XS.istore X0.here hx rfl (hb hby at_42) rfl (l' := #[.val (.int t_), .val (.int first), .val (.int rest_), .val (.int sel), .val (.int tag), .val (.int b0), .val (.int b1), .val (.int b2), .val (.int b3), .val (.int (1 : Int32)), .unset, .unset, .unset, .unset, .unset, .unset, .unset]) rfl kq)
    show Win p e below _ s₁ (mkF mt 44 #[.val (.int t_), .val (.int first), .val (.int rest_), .val (.int sel), .val (.int tag), .val (.int b0), .val (.int b1), .val (.int b2), .val (.int b3), .val (.int (1 : Int32)), .unset, .unset, .unset, .unset, .unset, .unset, .unset] [])
    refine Win.st ?_ (fun tq kq => XS.iload X0.here hx rfl (hb hby at_44) rfl kq)
    show Win p e below _ s₁ (mkF mt 46 #[.val (.int t_), .val (.int first), .val (.int rest_), .val (.int sel), .val (.int tag), .val (.int b0), .val (.int b1), .val (.int b2), .val (.int b3), .val (.int (1 : Int32)), .unset, .unset, .unset, .unset, .unset, .unset, .unset] [(.int (1 : Int32))])
    refine Win.st ?_ (fun tq kq => XS.ifNo X0.here hx rfl (hb hby at_46) rfl ((if0 _ _).trans (feq (by decide : ¬ ((1 : Int32) = (0 : Int32)))).1) kq)
    show Win p e below _ s₁ (mkF mt 49 #[.val (.int t_), .val (.int first), .val (.int rest_), .val (.int sel), .val (.int tag), .val (.int b0), .val (.int b1), .val (.int b2), .val (.int b3), .val (.int (1 : Int32)), .unset, .unset, .unset, .unset, .unset, .unset, .unset] [])
    refine Win.st ?_ (fun tq kq => XS.iconst X0.here hx rfl (hb hby at_49) kq)
    show Win p e below _ s₁ (mkF mt 50 #[.val (.int t_), .val (.int first), .val (.int rest_), .val (.int sel), .val (.int tag), .val (.int b0), .val (.int b1), .val (.int b2), .val (.int b3), .val (.int (1 : Int32)), .unset, .unset, .unset, .unset, .unset, .unset, .unset] [(.int (1 : Int32))])
    obtain ⟨T42, h42, k42, X42, e42, E42, A42, Ex42, st42⟩ := newPE X0 hx hZ (hw _ (List.mem_of_getElem? (i := 1) rfl)) e0 (g := (mkF mt 50 #[.val (.int t_), .val (.int first), .val (.int rest_), .val (.int sel), .val (.int tag), .val (.int b0), .val (.int b1), .val (.int b2), .val (.int b3), .val (.int (1 : Int32)), .unset, .unset, .unset, .unset, .unset, .unset, .unset] [(.int (1 : Int32))])) rfl (hb hby at_50) rfl (by decide) (cap := 1) (by decide) (by decide) (by decide) (by decide) (ad := "[B") (by decide)
    obtain ⟨b42, gq42⟩ : ∃ z, z = h0.size := ⟨_, rfl⟩
    rw [← gq42] at A42 st42 Ex42
    have g43 : n0 ≤ b42 := own_newle Z0 gq42
    have ke42 := own_kext E42
    replace X42 : Stand p l e _ s mt args below meth cd T42 _ 1 1 := X42
    have Z45 : n0 ≤ h42.size := Nat.le_trans Z0 ke42.1
    have V42 : Arv Z h42 b42 k42 .byte (1 : Int32) [(.int (0 : Int32))] (.int (0 : Int32)) := (Arv.new A42 (by decide)).pad (pad_rep [] (.int (0 : Int32)) 1)
    refine Win.st ?_ st42
    show Win p e below _ T42 (mkF mt 52 #[.val (.int t_), .val (.int first), .val (.int rest_), .val (.int sel), .val (.int tag), .val (.int b0), .val (.int b1), .val (.int b2), .val (.int b3), .val (.int (1 : Int32)), .unset, .unset, .unset, .unset, .unset, .unset, .unset] [(.ref b42)])
    refine Win.st ?_ (fun tq kq => XS.dup X42.here hx rfl (hb hby at_52) rfl rfl kq)
    show Win p e below _ T42 (mkF mt 53 #[.val (.int t_), .val (.int first), .val (.int rest_), .val (.int sel), .val (.int tag), .val (.int b0), .val (.int b1), .val (.int b2), .val (.int b3), .val (.int (1 : Int32)), .unset, .unset, .unset, .unset, .unset, .unset, .unset] [(.ref b42), (.ref b42)])
    refine Win.st ?_ (fun tq kq => XS.iconst X42.here hx rfl (hb hby at_53) kq)
    show Win p e below _ T42 (mkF mt 54 #[.val (.int t_), .val (.int first), .val (.int rest_), .val (.int sel), .val (.int tag), .val (.int b0), .val (.int b1), .val (.int b2), .val (.int b3), .val (.int (1 : Int32)), .unset, .unset, .unset, .unset, .unset, .unset, .unset] [(.int (0 : Int32)), (.ref b42), (.ref b42)])
    refine Win.st ?_ (fun tq kq => XS.iload X42.here hx rfl (hb hby at_54) rfl kq)
    show Win p e below _ T42 (mkF mt 56 #[.val (.int t_), .val (.int first), .val (.int rest_), .val (.int sel), .val (.int tag), .val (.int b0), .val (.int b1), .val (.int b2), .val (.int b3), .val (.int (1 : Int32)), .unset, .unset, .unset, .unset, .unset, .unset, .unset] [(.int b0), (.int (0 : Int32)), (.ref b42), (.ref b42)])
    obtain ⟨T46, h46, L46, X46, N46, e46, kp46, V46, st46⟩ := own_bast (g := (mkF mt 56 #[.val (.int t_), .val (.int first), .val (.int rest_), .val (.int sel), .val (.int tag), .val (.int b0), .val (.int b1), .val (.int b2), .val (.int b3), .val (.int (1 : Int32)), .unset, .unset, .unset, .unset, .unset, .unset, .unset] [(.int b0), (.int (0 : Int32)), (.ref b42), (.ref b42)])) X42 hx hZ e42 N0 g43 V42 (j := (0 : Int32)) (by decide) (by decide) (i := 0) rfl (by simp) rfl rfl (hb hby at_56)
    rw [hc0] at V46
    replace V46 : Arv Z h46 b42 k42 .byte (1 : Int32) ([(.int b0)]) (.int (0 : Int32)) := V46
    have f47_371 := Ex42.keep kp46
    have Z48 : n0 ≤ h46.size := Nat.le_trans Z45 kp46.1
    refine Win.st ?_ st46
    show Win p e below _ T46 (mkF mt 57 #[.val (.int t_), .val (.int first), .val (.int rest_), .val (.int sel), .val (.int tag), .val (.int b0), .val (.int b1), .val (.int b2), .val (.int b3), .val (.int (1 : Int32)), .unset, .unset, .unset, .unset, .unset, .unset, .unset] [(.ref b42)])
    refine Win.st ?_ (fun tq kq => XS.goto X46.here hx rfl (pc0 := 57) (pc' := 83) rfl (hb hby at_57) (by decide) (by decide) kq)
    show Win p e below _ T46 (mkF mt 83 #[.val (.int t_), .val (.int first), .val (.int rest_), .val (.int sel), .val (.int tag), .val (.int b0), .val (.int b1), .val (.int b2), .val (.int b3), .val (.int (1 : Int32)), .unset, .unset, .unset, .unset, .unset, .unset, .unset] [(.ref b42)])
    refine Win.st ?_ (fun tq kq => XS.astore X46.here hx rfl (hb hby at_83) rfl rfl (l' := #[.val (.int t_), .val (.int first), .val (.int rest_), .val (.int sel), .val (.int tag), .val (.int b0), .val (.int b1), .val (.int b2), .val (.int b3), .val (.int (1 : Int32)), .val (.ref b42), .unset, .unset, .unset, .unset, .unset, .unset]) rfl kq)
    show Win p e below _ T46 (mkF mt 85 #[.val (.int t_), .val (.int first), .val (.int rest_), .val (.int sel), .val (.int tag), .val (.int b0), .val (.int b1), .val (.int b2), .val (.int b3), .val (.int (1 : Int32)), .val (.ref b42), .unset, .unset, .unset, .unset, .unset, .unset] [])
    refine Win.st ?_ (fun tq kq => XS.iload X46.here hx rfl (hb hby at_85) rfl kq)
    show Win p e below _ T46 (mkF mt 87 #[.val (.int t_), .val (.int first), .val (.int rest_), .val (.int sel), .val (.int tag), .val (.int b0), .val (.int b1), .val (.int b2), .val (.int b3), .val (.int (1 : Int32)), .val (.ref b42), .unset, .unset, .unset, .unset, .unset, .unset] [(.int tag)])
    refine Win.st ?_ (fun tq kq => XS.aload X46.here hx rfl (hb hby at_87) rfl rfl kq)
    show Win p e below _ T46 (mkF mt 89 #[.val (.int t_), .val (.int first), .val (.int rest_), .val (.int sel), .val (.int tag), .val (.int b0), .val (.int b1), .val (.int b2), .val (.int b3), .val (.int (1 : Int32)), .val (.ref b42), .unset, .unset, .unset, .unset, .unset, .unset] [(.ref b42), (.int tag)])
    obtain ⟨v49, _, ⟨T49, L49, k49, n49⟩, -, X49, ⟨Lc49, hQ49, l49, y49, z49⟩, st49⟩ := Jvm.LawKit.callS X46 hx (y := (⟨"com/example/foldkey/foldkey/encoding/Der", "implicit", "(I[B)[B"⟩ : MethodName)) hown (mvT hZ (hw _ (List.mem_of_getElem? (i := 2) rfl))) (mvT hZ (hw _ (List.mem_of_getElem? (i := 3) rfl))) (mvT hZ (hw _ (List.mem_of_getElem? (i := 4) rfl))) (mvT hZ (hw _ (List.mem_of_getElem? (i := 5) rfl))) (by decide) (backOf (W := 0) (rm_impl l Z a0 hw [] tag b42 k42 (1 : Int32) [(.int b0)] b0 h46 n0 Z48 V46 f47_371 (by decide) (by decide) (by simp) rfl) hZ (hw _ (List.mem_of_getElem? (i := 5) rfl)) (hw _ (List.mem_of_getElem? (i := 4) rfl)) (by decide) (by decide)) (g := (mkF mt 89 #[.val (.int t_), .val (.int first), .val (.int rest_), .val (.int sel), .val (.int tag), .val (.int b0), .val (.int b1), .val (.int b2), .val (.int b3), .val (.int (1 : Int32)), .val (.ref b42), .unset, .unset, .unset, .unset, .unset, .unset] [(.ref b42), (.int tag)])) rfl (by rw [hml]; rfl) (argsL := [(.int tag), (.ref b42)]) (rest := []) (lenOf pd_0 rfl) rfl (by show 2 * 0 + _ ≤ _; exact Nat.le_of_eq rfl) (hb hby at_89) (fun _ _ => ⟨rfl, e46, (by decide : 1 + 1 ≤ _), (by decide : 1 + 4 ≤ _)⟩)
    dsimp only [Pt.U, Pt.locs, Pt.cells, Pt.slots] at X49 l49 y49 z49 st49 hQ49
    subst y49 z49
    replace X49 : Stand p l e _ s mt args below meth cd T49 L49 2 5 := X49
    obtain ⟨h49, e49⟩ : ∃ z, T49.heap = z := ⟨_, rfl⟩
    rw [e49] at hQ49
    obtain ⟨rr, rfl, Nq49, K49, gr49, nr49, V49⟩ := hQ49
    have N49 : Fr n0 L49 := by rw [l49]; exact Fr.app N46 Nq49
    have f50_391 := V46.keep K49 nin0
    have f50_392 := f47_371.keep K49
    have Z51 : n0 ≤ h49.size := Nat.le_trans Z48 K49.1
    refine Win.st ?_ st49
    show Win p e below _ T49 (mkF mt 92 #[.val (.int t_), .val (.int first), .val (.int rest_), .val (.int sel), .val (.int tag), .val (.int b0), .val (.int b1), .val (.int b2), .val (.int b3), .val (.int (1 : Int32)), .val (.ref b42), .unset, .unset, .unset, .unset, .unset, .unset] [(.ref rr)])
    refine Win.st ?_ (fun tq kq => XS.astore X49.here hx rfl (hb hby at_92) rfl rfl (l' := #[.val (.int t_), .val (.int first), .val (.int rest_), .val (.int sel), .val (.int tag), .val (.int b0), .val (.int b1), .val (.int b2), .val (.int b3), .val (.int (1 : Int32)), .val (.ref b42), .val (.ref rr), .unset, .unset, .unset, .unset, .unset]) rfl kq)
    show Win p e below _ T49 (mkF mt 94 #[.val (.int t_), .val (.int first), .val (.int rest_), .val (.int sel), .val (.int tag), .val (.int b0), .val (.int b1), .val (.int b2), .val (.int b3), .val (.int (1 : Int32)), .val (.ref b42), .val (.ref rr), .unset, .unset, .unset, .unset, .unset] [])
    refine Win.st ?_ (fun tq kq => XS.aload X49.here hx rfl (hb hby at_94) rfl rfl kq)
    show Win p e below _ T49 (mkF mt 96 #[.val (.int t_), .val (.int first), .val (.int rest_), .val (.int sel), .val (.int tag), .val (.int b0), .val (.int b1), .val (.int b2), .val (.int b3), .val (.int (1 : Int32)), .val (.ref b42), .val (.ref rr), .unset, .unset, .unset, .unset, .unset] [(.ref rr)])
    refine Win.st ?_ (fun tq kq => XS.aload X49.here hx rfl (hb hby at_96) rfl rfl kq)
    show Win p e below _ T49 (mkF mt 98 #[.val (.int t_), .val (.int first), .val (.int rest_), .val (.int sel), .val (.int tag), .val (.int b0), .val (.int b1), .val (.int b2), .val (.int b3), .val (.int (1 : Int32)), .val (.ref b42), .val (.ref rr), .unset, .unset, .unset, .unset, .unset] [(.ref b42), (.ref rr)])
    refine Win.st ?_ (fun tq kq => Jvm.RoadKit.acmp (g := (mkF mt 98 #[.val (.int t_), .val (.int first), .val (.int rest_), .val (.int sel), .val (.int tag), .val (.int b0), .val (.int b1), .val (.int b2), .val (.int b3), .val (.int (1 : Int32)), .val (.ref b42), .val (.ref rr), .unset, .unset, .unset, .unset, .unset] [(.ref b42), (.ref rr)])) X49 hx rfl rfl rfl (pc0 := 98) (pc' := 103) (same := false) rfl (hb hby at_98) rfl (decide_eq_false fun q => (Ne.symm nr49) (Value.ref.inj q)) (by decide) (by decide) kq)
    show Win p e below _ T49 (mkF mt 103 #[.val (.int t_), .val (.int first), .val (.int rest_), .val (.int sel), .val (.int tag), .val (.int b0), .val (.int b1), .val (.int b2), .val (.int b3), .val (.int (1 : Int32)), .val (.ref b42), .val (.ref rr), .unset, .unset, .unset, .unset, .unset] [])
    refine Win.st ?_ (fun tq kq => XS.aload X49.here hx rfl (hb hby at_103) rfl rfl kq)
    show Win p e below _ T49 (mkF mt 105 #[.val (.int t_), .val (.int first), .val (.int rest_), .val (.int sel), .val (.int tag), .val (.int b0), .val (.int b1), .val (.int b2), .val (.int b3), .val (.int (1 : Int32)), .val (.ref b42), .val (.ref rr), .unset, .unset, .unset, .unset, .unset] [(.ref rr)])
    refine Win.st ?_ (own_alen (g := (mkF mt 105 #[.val (.int t_), .val (.int first), .val (.int rest_), .val (.int sel), .val (.int tag), .val (.int b0), .val (.int b1), .val (.int b2), .val (.int b3), .val (.int (1 : Int32)), .val (.ref b42), .val (.ref rr), .unset, .unset, .unset, .unset, .unset] [(.ref rr)])) X49 hx hZ e49 V49 rfl rfl (hb hby at_105))
    show Win p e below _ T49 (mkF mt 106 #[.val (.int t_), .val (.int first), .val (.int rest_), .val (.int sel), .val (.int tag), .val (.int b0), .val (.int b1), .val (.int b2), .val (.int b3), .val (.int (1 : Int32)), .val (.ref b42), .val (.ref rr), .unset, .unset, .unset, .unset, .unset] [(.int (1 : Int32))])
    refine Win.st ?_ (fun tq kq => XS.aload X49.here hx rfl (hb hby at_106) rfl rfl kq)
    show Win p e below _ T49 (mkF mt 108 #[.val (.int t_), .val (.int first), .val (.int rest_), .val (.int sel), .val (.int tag), .val (.int b0), .val (.int b1), .val (.int b2), .val (.int b3), .val (.int (1 : Int32)), .val (.ref b42), .val (.ref rr), .unset, .unset, .unset, .unset, .unset] [(.ref b42), (.int (1 : Int32))])
    refine Win.st ?_ (own_alen (g := (mkF mt 108 #[.val (.int t_), .val (.int first), .val (.int rest_), .val (.int sel), .val (.int tag), .val (.int b0), .val (.int b1), .val (.int b2), .val (.int b3), .val (.int (1 : Int32)), .val (.ref b42), .val (.ref rr), .unset, .unset, .unset, .unset, .unset] [(.ref b42), (.int (1 : Int32))])) X49 hx hZ e49 f50_391 rfl rfl (hb hby at_108))
    show Win p e below _ T49 (mkF mt 109 #[.val (.int t_), .val (.int first), .val (.int rest_), .val (.int sel), .val (.int tag), .val (.int b0), .val (.int b1), .val (.int b2), .val (.int b3), .val (.int (1 : Int32)), .val (.ref b42), .val (.ref rr), .unset, .unset, .unset, .unset, .unset] [(.int (1 : Int32)), (.int (1 : Int32))])
    refine Win.st ?_ (fun tq kq => XS.icmpYes X49.here hx rfl (pc0 := 109) (pc' := 114) rfl (hb hby at_109) rfl (teq (rfl : (1 : Int32) = (1 : Int32))).1 (by decide) (by decide) kq)
    show Win p e below _ T49 (mkF mt 114 #[.val (.int t_), .val (.int first), .val (.int rest_), .val (.int sel), .val (.int tag), .val (.int b0), .val (.int b1), .val (.int b2), .val (.int b3), .val (.int (1 : Int32)), .val (.ref b42), .val (.ref rr), .unset, .unset, .unset, .unset, .unset] [])
    refine Win.st ?_ (fun tq kq => XS.aload X49.here hx rfl (hb hby at_114) rfl rfl kq)
    show Win p e below _ T49 (mkF mt 116 #[.val (.int t_), .val (.int first), .val (.int rest_), .val (.int sel), .val (.int tag), .val (.int b0), .val (.int b1), .val (.int b2), .val (.int b3), .val (.int (1 : Int32)), .val (.ref b42), .val (.ref rr), .unset, .unset, .unset, .unset, .unset] [(.ref b42)])
    refine Win.st ?_ (fun tq kq => XS.iconst X49.here hx rfl (hb hby at_116) kq)
    show Win p e below _ T49 (mkF mt 117 #[.val (.int t_), .val (.int first), .val (.int rest_), .val (.int sel), .val (.int tag), .val (.int b0), .val (.int b1), .val (.int b2), .val (.int b3), .val (.int (1 : Int32)), .val (.ref b42), .val (.ref rr), .unset, .unset, .unset, .unset, .unset] [(.int (0 : Int32)), (.ref b42)])
    refine Win.st ?_ (own_bald (g := (mkF mt 117 #[.val (.int t_), .val (.int first), .val (.int rest_), .val (.int sel), .val (.int tag), .val (.int b0), .val (.int b1), .val (.int b2), .val (.int b3), .val (.int (1 : Int32)), .val (.ref b42), .val (.ref rr), .unset, .unset, .unset, .unset, .unset] [(.int (0 : Int32)), (.ref b42)])) X49 hx hZ e49 f50_391 (j := (0 : Int32)) (v := (.int b0)) (by decide) (by decide) rfl rfl rfl (hb hby at_117))
    show Win p e below _ T49 (mkF mt 118 #[.val (.int t_), .val (.int first), .val (.int rest_), .val (.int sel), .val (.int tag), .val (.int b0), .val (.int b1), .val (.int b2), .val (.int b3), .val (.int (1 : Int32)), .val (.ref b42), .val (.ref rr), .unset, .unset, .unset, .unset, .unset] [(.int b0)])
    refine Win.st ?_ (fun tq kq => XS.iload X49.here hx rfl (hb hby at_118) rfl kq)
    show Win p e below _ T49 (mkF mt 120 #[.val (.int t_), .val (.int first), .val (.int rest_), .val (.int sel), .val (.int tag), .val (.int b0), .val (.int b1), .val (.int b2), .val (.int b3), .val (.int (1 : Int32)), .val (.ref b42), .val (.ref rr), .unset, .unset, .unset, .unset, .unset] [(.int b0), (.int b0)])
    refine Win.st ?_ (fun tq kq => XS.icmpYes X49.here hx rfl (pc0 := 120) (pc' := 125) rfl (hb hby at_120) rfl (teq (rfl : b0 = b0)).1 (by decide) (by decide) kq)
    show Win p e below _ T49 (mkF mt 125 #[.val (.int t_), .val (.int first), .val (.int rest_), .val (.int sel), .val (.int tag), .val (.int b0), .val (.int b1), .val (.int b2), .val (.int b3), .val (.int (1 : Int32)), .val (.ref b42), .val (.ref rr), .unset, .unset, .unset, .unset, .unset] [])
    refine Win.st ?_ (fun tq kq => XS.iload X49.here hx rfl (hb hby at_125) rfl kq)
    show Win p e below _ T49 (mkF mt 127 #[.val (.int t_), .val (.int first), .val (.int rest_), .val (.int sel), .val (.int tag), .val (.int b0), .val (.int b1), .val (.int b2), .val (.int b3), .val (.int (1 : Int32)), .val (.ref b42), .val (.ref rr), .unset, .unset, .unset, .unset, .unset] [(.int (1 : Int32))])
    refine Win.st ?_ (fun tq kq => XS.ifYes X49.here hx rfl (pc0 := 127) (pc' := 188) rfl (hb hby at_127) rfl ((if0 _ _).trans (feq (by decide : ¬ ((1 : Int32) = (0 : Int32)))).2) (by decide) (by decide) kq)
    show Win p e below _ T49 (mkF mt 188 #[.val (.int t_), .val (.int first), .val (.int rest_), .val (.int sel), .val (.int tag), .val (.int b0), .val (.int b1), .val (.int b2), .val (.int b3), .val (.int (1 : Int32)), .val (.ref b42), .val (.ref rr), .unset, .unset, .unset, .unset, .unset] [])
    refine Win.st ?_ (fun tq kq => XS.aload X49.here hx rfl (hb hby at_188) rfl rfl kq)
    show Win p e below _ T49 (mkF mt 190 #[.val (.int t_), .val (.int first), .val (.int rest_), .val (.int sel), .val (.int tag), .val (.int b0), .val (.int b1), .val (.int b2), .val (.int b3), .val (.int (1 : Int32)), .val (.ref b42), .val (.ref rr), .unset, .unset, .unset, .unset, .unset] [(.ref rr)])
    refine Win.st ?_ (fun tq kq => XS.iconst X49.here hx rfl (hb hby at_190) kq)
    show Win p e below _ T49 (mkF mt 191 #[.val (.int t_), .val (.int first), .val (.int rest_), .val (.int sel), .val (.int tag), .val (.int b0), .val (.int b1), .val (.int b2), .val (.int b3), .val (.int (1 : Int32)), .val (.ref b42), .val (.ref rr), .unset, .unset, .unset, .unset, .unset] [(.int (0 : Int32)), (.ref rr)])
    refine Win.st ?_ (own_bald (g := (mkF mt 191 #[.val (.int t_), .val (.int first), .val (.int rest_), .val (.int sel), .val (.int tag), .val (.int b0), .val (.int b1), .val (.int b2), .val (.int b3), .val (.int (1 : Int32)), .val (.ref b42), .val (.ref rr), .unset, .unset, .unset, .unset, .unset] [(.int (0 : Int32)), (.ref rr)])) X49 hx hZ e49 V49 (j := (0 : Int32)) (v := (.int ((((128 : Int32) ||| (b0 &&& (32 : Int32))) ||| tag).toInt8.toInt32))) (by decide) (by decide) rfl rfl rfl (hb hby at_191))
    show Win p e below _ T49 (mkF mt 192 #[.val (.int t_), .val (.int first), .val (.int rest_), .val (.int sel), .val (.int tag), .val (.int b0), .val (.int b1), .val (.int b2), .val (.int b3), .val (.int (1 : Int32)), .val (.ref b42), .val (.ref rr), .unset, .unset, .unset, .unset, .unset] [(.int ((((128 : Int32) ||| (b0 &&& (32 : Int32))) ||| tag).toInt8.toInt32))])
    refine Win.st ?_ (fun tq kq => XS.sipush X49.here hx rfl (hb hby at_192) kq)
    show Win p e below _ T49 (mkF mt 195 #[.val (.int t_), .val (.int first), .val (.int rest_), .val (.int sel), .val (.int tag), .val (.int b0), .val (.int b1), .val (.int b2), .val (.int b3), .val (.int (1 : Int32)), .val (.ref b42), .val (.ref rr), .unset, .unset, .unset, .unset, .unset] [(.int (255 : Int32)), (.int ((((128 : Int32) ||| (b0 &&& (32 : Int32))) ||| tag).toInt8.toInt32))])
    refine Win.st ?_ (fun tq kq => XS.iand X49.here hx rfl (hb hby at_195) rfl kq)
    show Win p e below _ T49 (mkF mt 196 #[.val (.int t_), .val (.int first), .val (.int rest_), .val (.int sel), .val (.int tag), .val (.int b0), .val (.int b1), .val (.int b2), .val (.int b3), .val (.int (1 : Int32)), .val (.ref b42), .val (.ref rr), .unset, .unset, .unset, .unset, .unset] [(.int (((((128 : Int32) ||| (b0 &&& (32 : Int32))) ||| tag).toInt8.toInt32) &&& (255 : Int32)))])
    refine Win.st ?_ (fun tq kq => XS.istore X49.here hx rfl (hb hby at_196) rfl (l' := #[.val (.int t_), .val (.int first), .val (.int rest_), .val (.int sel), .val (.int tag), .val (.int b0), .val (.int b1), .val (.int b2), .val (.int b3), .val (.int (1 : Int32)), .val (.ref b42), .val (.ref rr), .val (.int (((((128 : Int32) ||| (b0 &&& (32 : Int32))) ||| tag).toInt8.toInt32) &&& (255 : Int32))), .unset, .unset, .unset, .unset]) rfl kq)
    show Win p e below _ T49 (mkF mt 198 #[.val (.int t_), .val (.int first), .val (.int rest_), .val (.int sel), .val (.int tag), .val (.int b0), .val (.int b1), .val (.int b2), .val (.int b3), .val (.int (1 : Int32)), .val (.ref b42), .val (.ref rr), .val (.int (((((128 : Int32) ||| (b0 &&& (32 : Int32))) ||| tag).toInt8.toInt32) &&& (255 : Int32))), .unset, .unset, .unset, .unset] [])
    refine Win.st ?_ (fun tq kq => XS.iload X49.here hx rfl (hb hby at_198) rfl kq)
    show Win p e below _ T49 (mkF mt 200 #[.val (.int t_), .val (.int first), .val (.int rest_), .val (.int sel), .val (.int tag), .val (.int b0), .val (.int b1), .val (.int b2), .val (.int b3), .val (.int (1 : Int32)), .val (.ref b42), .val (.ref rr), .val (.int (((((128 : Int32) ||| (b0 &&& (32 : Int32))) ||| tag).toInt8.toInt32) &&& (255 : Int32))), .unset, .unset, .unset, .unset] [(.int (((((128 : Int32) ||| (b0 &&& (32 : Int32))) ||| tag).toInt8.toInt32) &&& (255 : Int32)))])
    refine Win.st ?_ (fun tq kq => XS.bipush X49.here hx rfl (hb hby at_200) kq)
    show Win p e below _ T49 (mkF mt 202 #[.val (.int t_), .val (.int first), .val (.int rest_), .val (.int sel), .val (.int tag), .val (.int b0), .val (.int b1), .val (.int b2), .val (.int b3), .val (.int (1 : Int32)), .val (.ref b42), .val (.ref rr), .val (.int (((((128 : Int32) ||| (b0 &&& (32 : Int32))) ||| tag).toInt8.toInt32) &&& (255 : Int32))), .unset, .unset, .unset, .unset] [(.int (6 : Int32)), (.int (((((128 : Int32) ||| (b0 &&& (32 : Int32))) ||| tag).toInt8.toInt32) &&& (255 : Int32)))])
    refine Win.st ?_ (fun tq kq => XS.iushr X49.here hx rfl (hb hby at_202) rfl kq)
    show Win p e below _ T49 (mkF mt 203 #[.val (.int t_), .val (.int first), .val (.int rest_), .val (.int sel), .val (.int tag), .val (.int b0), .val (.int b1), .val (.int b2), .val (.int b3), .val (.int (1 : Int32)), .val (.ref b42), .val (.ref rr), .val (.int (((((128 : Int32) ||| (b0 &&& (32 : Int32))) ||| tag).toInt8.toInt32) &&& (255 : Int32))), .unset, .unset, .unset, .unset] [(.int (((((((128 : Int32) ||| (b0 &&& (32 : Int32))) ||| tag).toInt8.toInt32) &&& (255 : Int32)).toUInt32 >>> ((6 : Int32) &&& 31).toUInt32).toInt32))])
    refine Win.st ?_ (fun tq kq => XS.istore X49.here hx rfl (hb hby at_203) rfl (l' := #[.val (.int t_), .val (.int first), .val (.int rest_), .val (.int sel), .val (.int tag), .val (.int b0), .val (.int b1), .val (.int b2), .val (.int b3), .val (.int (1 : Int32)), .val (.ref b42), .val (.ref rr), .val (.int (((((128 : Int32) ||| (b0 &&& (32 : Int32))) ||| tag).toInt8.toInt32) &&& (255 : Int32))), .val (.int (((((((128 : Int32) ||| (b0 &&& (32 : Int32))) ||| tag).toInt8.toInt32) &&& (255 : Int32)).toUInt32 >>> ((6 : Int32) &&& 31).toUInt32).toInt32)), .unset, .unset, .unset]) rfl kq)
    show Win p e below _ T49 (mkF mt 205 #[.val (.int t_), .val (.int first), .val (.int rest_), .val (.int sel), .val (.int tag), .val (.int b0), .val (.int b1), .val (.int b2), .val (.int b3), .val (.int (1 : Int32)), .val (.ref b42), .val (.ref rr), .val (.int (((((128 : Int32) ||| (b0 &&& (32 : Int32))) ||| tag).toInt8.toInt32) &&& (255 : Int32))), .val (.int (((((((128 : Int32) ||| (b0 &&& (32 : Int32))) ||| tag).toInt8.toInt32) &&& (255 : Int32)).toUInt32 >>> ((6 : Int32) &&& 31).toUInt32).toInt32)), .unset, .unset, .unset] [])
    refine Win.st ?_ (fun tq kq => XS.iload X49.here hx rfl (hb hby at_205) rfl kq)
    show Win p e below _ T49 (mkF mt 207 #[.val (.int t_), .val (.int first), .val (.int rest_), .val (.int sel), .val (.int tag), .val (.int b0), .val (.int b1), .val (.int b2), .val (.int b3), .val (.int (1 : Int32)), .val (.ref b42), .val (.ref rr), .val (.int (((((128 : Int32) ||| (b0 &&& (32 : Int32))) ||| tag).toInt8.toInt32) &&& (255 : Int32))), .val (.int (((((((128 : Int32) ||| (b0 &&& (32 : Int32))) ||| tag).toInt8.toInt32) &&& (255 : Int32)).toUInt32 >>> ((6 : Int32) &&& 31).toUInt32).toInt32)), .unset, .unset, .unset] [(.int (((((128 : Int32) ||| (b0 &&& (32 : Int32))) ||| tag).toInt8.toInt32) &&& (255 : Int32)))])
    refine Win.st ?_ (fun tq kq => XS.iconst X49.here hx rfl (hb hby at_207) kq)
    show Win p e below _ T49 (mkF mt 208 #[.val (.int t_), .val (.int first), .val (.int rest_), .val (.int sel), .val (.int tag), .val (.int b0), .val (.int b1), .val (.int b2), .val (.int b3), .val (.int (1 : Int32)), .val (.ref b42), .val (.ref rr), .val (.int (((((128 : Int32) ||| (b0 &&& (32 : Int32))) ||| tag).toInt8.toInt32) &&& (255 : Int32))), .val (.int (((((((128 : Int32) ||| (b0 &&& (32 : Int32))) ||| tag).toInt8.toInt32) &&& (255 : Int32)).toUInt32 >>> ((6 : Int32) &&& 31).toUInt32).toInt32)), .unset, .unset, .unset] [(.int (5 : Int32)), (.int (((((128 : Int32) ||| (b0 &&& (32 : Int32))) ||| tag).toInt8.toInt32) &&& (255 : Int32)))])
    refine Win.st ?_ (fun tq kq => XS.iushr X49.here hx rfl (hb hby at_208) rfl kq)
    show Win p e below _ T49 (mkF mt 209 #[.val (.int t_), .val (.int first), .val (.int rest_), .val (.int sel), .val (.int tag), .val (.int b0), .val (.int b1), .val (.int b2), .val (.int b3), .val (.int (1 : Int32)), .val (.ref b42), .val (.ref rr), .val (.int (((((128 : Int32) ||| (b0 &&& (32 : Int32))) ||| tag).toInt8.toInt32) &&& (255 : Int32))), .val (.int (((((((128 : Int32) ||| (b0 &&& (32 : Int32))) ||| tag).toInt8.toInt32) &&& (255 : Int32)).toUInt32 >>> ((6 : Int32) &&& 31).toUInt32).toInt32)), .unset, .unset, .unset] [(.int (((((((128 : Int32) ||| (b0 &&& (32 : Int32))) ||| tag).toInt8.toInt32) &&& (255 : Int32)).toUInt32 >>> ((5 : Int32) &&& 31).toUInt32).toInt32))])
    refine Win.st ?_ (fun tq kq => XS.iconst X49.here hx rfl (hb hby at_209) kq)
    show Win p e below _ T49 (mkF mt 210 #[.val (.int t_), .val (.int first), .val (.int rest_), .val (.int sel), .val (.int tag), .val (.int b0), .val (.int b1), .val (.int b2), .val (.int b3), .val (.int (1 : Int32)), .val (.ref b42), .val (.ref rr), .val (.int (((((128 : Int32) ||| (b0 &&& (32 : Int32))) ||| tag).toInt8.toInt32) &&& (255 : Int32))), .val (.int (((((((128 : Int32) ||| (b0 &&& (32 : Int32))) ||| tag).toInt8.toInt32) &&& (255 : Int32)).toUInt32 >>> ((6 : Int32) &&& 31).toUInt32).toInt32)), .unset, .unset, .unset] [(.int (1 : Int32)), (.int (((((((128 : Int32) ||| (b0 &&& (32 : Int32))) ||| tag).toInt8.toInt32) &&& (255 : Int32)).toUInt32 >>> ((5 : Int32) &&& 31).toUInt32).toInt32))])
    refine Win.st ?_ (fun tq kq => XS.iand X49.here hx rfl (hb hby at_210) rfl kq)
    show Win p e below _ T49 (mkF mt 211 #[.val (.int t_), .val (.int first), .val (.int rest_), .val (.int sel), .val (.int tag), .val (.int b0), .val (.int b1), .val (.int b2), .val (.int b3), .val (.int (1 : Int32)), .val (.ref b42), .val (.ref rr), .val (.int (((((128 : Int32) ||| (b0 &&& (32 : Int32))) ||| tag).toInt8.toInt32) &&& (255 : Int32))), .val (.int (((((((128 : Int32) ||| (b0 &&& (32 : Int32))) ||| tag).toInt8.toInt32) &&& (255 : Int32)).toUInt32 >>> ((6 : Int32) &&& 31).toUInt32).toInt32)), .unset, .unset, .unset] [(.int ((((((((128 : Int32) ||| (b0 &&& (32 : Int32))) ||| tag).toInt8.toInt32) &&& (255 : Int32)).toUInt32 >>> ((5 : Int32) &&& 31).toUInt32).toInt32) &&& (1 : Int32)))])
    refine Win.st ?_ (fun tq kq => XS.istore X49.here hx rfl (hb hby at_211) rfl (l' := #[.val (.int t_), .val (.int first), .val (.int rest_), .val (.int sel), .val (.int tag), .val (.int b0), .val (.int b1), .val (.int b2), .val (.int b3), .val (.int (1 : Int32)), .val (.ref b42), .val (.ref rr), .val (.int (((((128 : Int32) ||| (b0 &&& (32 : Int32))) ||| tag).toInt8.toInt32) &&& (255 : Int32))), .val (.int (((((((128 : Int32) ||| (b0 &&& (32 : Int32))) ||| tag).toInt8.toInt32) &&& (255 : Int32)).toUInt32 >>> ((6 : Int32) &&& 31).toUInt32).toInt32)), .val (.int ((((((((128 : Int32) ||| (b0 &&& (32 : Int32))) ||| tag).toInt8.toInt32) &&& (255 : Int32)).toUInt32 >>> ((5 : Int32) &&& 31).toUInt32).toInt32) &&& (1 : Int32))), .unset, .unset]) rfl kq)
    show Win p e below _ T49 (mkF mt 213 #[.val (.int t_), .val (.int first), .val (.int rest_), .val (.int sel), .val (.int tag), .val (.int b0), .val (.int b1), .val (.int b2), .val (.int b3), .val (.int (1 : Int32)), .val (.ref b42), .val (.ref rr), .val (.int (((((128 : Int32) ||| (b0 &&& (32 : Int32))) ||| tag).toInt8.toInt32) &&& (255 : Int32))), .val (.int (((((((128 : Int32) ||| (b0 &&& (32 : Int32))) ||| tag).toInt8.toInt32) &&& (255 : Int32)).toUInt32 >>> ((6 : Int32) &&& 31).toUInt32).toInt32)), .val (.int ((((((((128 : Int32) ||| (b0 &&& (32 : Int32))) ||| tag).toInt8.toInt32) &&& (255 : Int32)).toUInt32 >>> ((5 : Int32) &&& 31).toUInt32).toInt32) &&& (1 : Int32))), .unset, .unset] [])
    refine Win.st ?_ (fun tq kq => XS.iload X49.here hx rfl (hb hby at_213) rfl kq)
    show Win p e below _ T49 (mkF mt 215 #[.val (.int t_), .val (.int first), .val (.int rest_), .val (.int sel), .val (.int tag), .val (.int b0), .val (.int b1), .val (.int b2), .val (.int b3), .val (.int (1 : Int32)), .val (.ref b42), .val (.ref rr), .val (.int (((((128 : Int32) ||| (b0 &&& (32 : Int32))) ||| tag).toInt8.toInt32) &&& (255 : Int32))), .val (.int (((((((128 : Int32) ||| (b0 &&& (32 : Int32))) ||| tag).toInt8.toInt32) &&& (255 : Int32)).toUInt32 >>> ((6 : Int32) &&& 31).toUInt32).toInt32)), .val (.int ((((((((128 : Int32) ||| (b0 &&& (32 : Int32))) ||| tag).toInt8.toInt32) &&& (255 : Int32)).toUInt32 >>> ((5 : Int32) &&& 31).toUInt32).toInt32) &&& (1 : Int32))), .unset, .unset] [(.int b0)])
    refine Win.st ?_ (fun tq kq => XS.sipush X49.here hx rfl (hb hby at_215) kq)
    show Win p e below _ T49 (mkF mt 218 #[.val (.int t_), .val (.int first), .val (.int rest_), .val (.int sel), .val (.int tag), .val (.int b0), .val (.int b1), .val (.int b2), .val (.int b3), .val (.int (1 : Int32)), .val (.ref b42), .val (.ref rr), .val (.int (((((128 : Int32) ||| (b0 &&& (32 : Int32))) ||| tag).toInt8.toInt32) &&& (255 : Int32))), .val (.int (((((((128 : Int32) ||| (b0 &&& (32 : Int32))) ||| tag).toInt8.toInt32) &&& (255 : Int32)).toUInt32 >>> ((6 : Int32) &&& 31).toUInt32).toInt32)), .val (.int ((((((((128 : Int32) ||| (b0 &&& (32 : Int32))) ||| tag).toInt8.toInt32) &&& (255 : Int32)).toUInt32 >>> ((5 : Int32) &&& 31).toUInt32).toInt32) &&& (1 : Int32))), .unset, .unset] [(.int (255 : Int32)), (.int b0)])
    refine Win.st ?_ (fun tq kq => XS.iand X49.here hx rfl (hb hby at_218) rfl kq)
    show Win p e below _ T49 (mkF mt 219 #[.val (.int t_), .val (.int first), .val (.int rest_), .val (.int sel), .val (.int tag), .val (.int b0), .val (.int b1), .val (.int b2), .val (.int b3), .val (.int (1 : Int32)), .val (.ref b42), .val (.ref rr), .val (.int (((((128 : Int32) ||| (b0 &&& (32 : Int32))) ||| tag).toInt8.toInt32) &&& (255 : Int32))), .val (.int (((((((128 : Int32) ||| (b0 &&& (32 : Int32))) ||| tag).toInt8.toInt32) &&& (255 : Int32)).toUInt32 >>> ((6 : Int32) &&& 31).toUInt32).toInt32)), .val (.int ((((((((128 : Int32) ||| (b0 &&& (32 : Int32))) ||| tag).toInt8.toInt32) &&& (255 : Int32)).toUInt32 >>> ((5 : Int32) &&& 31).toUInt32).toInt32) &&& (1 : Int32))), .unset, .unset] [(.int (b0 &&& (255 : Int32)))])
    refine Win.st ?_ (fun tq kq => XS.iconst X49.here hx rfl (hb hby at_219) kq)
    show Win p e below _ T49 (mkF mt 220 #[.val (.int t_), .val (.int first), .val (.int rest_), .val (.int sel), .val (.int tag), .val (.int b0), .val (.int b1), .val (.int b2), .val (.int b3), .val (.int (1 : Int32)), .val (.ref b42), .val (.ref rr), .val (.int (((((128 : Int32) ||| (b0 &&& (32 : Int32))) ||| tag).toInt8.toInt32) &&& (255 : Int32))), .val (.int (((((((128 : Int32) ||| (b0 &&& (32 : Int32))) ||| tag).toInt8.toInt32) &&& (255 : Int32)).toUInt32 >>> ((6 : Int32) &&& 31).toUInt32).toInt32)), .val (.int ((((((((128 : Int32) ||| (b0 &&& (32 : Int32))) ||| tag).toInt8.toInt32) &&& (255 : Int32)).toUInt32 >>> ((5 : Int32) &&& 31).toUInt32).toInt32) &&& (1 : Int32))), .unset, .unset] [(.int (5 : Int32)), (.int (b0 &&& (255 : Int32)))])
    refine Win.st ?_ (fun tq kq => XS.iushr X49.here hx rfl (hb hby at_220) rfl kq)
    show Win p e below _ T49 (mkF mt 221 #[.val (.int t_), .val (.int first), .val (.int rest_), .val (.int sel), .val (.int tag), .val (.int b0), .val (.int b1), .val (.int b2), .val (.int b3), .val (.int (1 : Int32)), .val (.ref b42), .val (.ref rr), .val (.int (((((128 : Int32) ||| (b0 &&& (32 : Int32))) ||| tag).toInt8.toInt32) &&& (255 : Int32))), .val (.int (((((((128 : Int32) ||| (b0 &&& (32 : Int32))) ||| tag).toInt8.toInt32) &&& (255 : Int32)).toUInt32 >>> ((6 : Int32) &&& 31).toUInt32).toInt32)), .val (.int ((((((((128 : Int32) ||| (b0 &&& (32 : Int32))) ||| tag).toInt8.toInt32) &&& (255 : Int32)).toUInt32 >>> ((5 : Int32) &&& 31).toUInt32).toInt32) &&& (1 : Int32))), .unset, .unset] [(.int (((b0 &&& (255 : Int32)).toUInt32 >>> ((5 : Int32) &&& 31).toUInt32).toInt32))])
    refine Win.st ?_ (fun tq kq => XS.iconst X49.here hx rfl (hb hby at_221) kq)
    show Win p e below _ T49 (mkF mt 222 #[.val (.int t_), .val (.int first), .val (.int rest_), .val (.int sel), .val (.int tag), .val (.int b0), .val (.int b1), .val (.int b2), .val (.int b3), .val (.int (1 : Int32)), .val (.ref b42), .val (.ref rr), .val (.int (((((128 : Int32) ||| (b0 &&& (32 : Int32))) ||| tag).toInt8.toInt32) &&& (255 : Int32))), .val (.int (((((((128 : Int32) ||| (b0 &&& (32 : Int32))) ||| tag).toInt8.toInt32) &&& (255 : Int32)).toUInt32 >>> ((6 : Int32) &&& 31).toUInt32).toInt32)), .val (.int ((((((((128 : Int32) ||| (b0 &&& (32 : Int32))) ||| tag).toInt8.toInt32) &&& (255 : Int32)).toUInt32 >>> ((5 : Int32) &&& 31).toUInt32).toInt32) &&& (1 : Int32))), .unset, .unset] [(.int (1 : Int32)), (.int (((b0 &&& (255 : Int32)).toUInt32 >>> ((5 : Int32) &&& 31).toUInt32).toInt32))])
    refine Win.st ?_ (fun tq kq => XS.iand X49.here hx rfl (hb hby at_222) rfl kq)
    show Win p e below _ T49 (mkF mt 223 #[.val (.int t_), .val (.int first), .val (.int rest_), .val (.int sel), .val (.int tag), .val (.int b0), .val (.int b1), .val (.int b2), .val (.int b3), .val (.int (1 : Int32)), .val (.ref b42), .val (.ref rr), .val (.int (((((128 : Int32) ||| (b0 &&& (32 : Int32))) ||| tag).toInt8.toInt32) &&& (255 : Int32))), .val (.int (((((((128 : Int32) ||| (b0 &&& (32 : Int32))) ||| tag).toInt8.toInt32) &&& (255 : Int32)).toUInt32 >>> ((6 : Int32) &&& 31).toUInt32).toInt32)), .val (.int ((((((((128 : Int32) ||| (b0 &&& (32 : Int32))) ||| tag).toInt8.toInt32) &&& (255 : Int32)).toUInt32 >>> ((5 : Int32) &&& 31).toUInt32).toInt32) &&& (1 : Int32))), .unset, .unset] [(.int ((((b0 &&& (255 : Int32)).toUInt32 >>> ((5 : Int32) &&& 31).toUInt32).toInt32) &&& (1 : Int32)))])
    refine Win.st ?_ (fun tq kq => XS.istore X49.here hx rfl (hb hby at_223) rfl (l' := #[.val (.int t_), .val (.int first), .val (.int rest_), .val (.int sel), .val (.int tag), .val (.int b0), .val (.int b1), .val (.int b2), .val (.int b3), .val (.int (1 : Int32)), .val (.ref b42), .val (.ref rr), .val (.int (((((128 : Int32) ||| (b0 &&& (32 : Int32))) ||| tag).toInt8.toInt32) &&& (255 : Int32))), .val (.int (((((((128 : Int32) ||| (b0 &&& (32 : Int32))) ||| tag).toInt8.toInt32) &&& (255 : Int32)).toUInt32 >>> ((6 : Int32) &&& 31).toUInt32).toInt32)), .val (.int ((((((((128 : Int32) ||| (b0 &&& (32 : Int32))) ||| tag).toInt8.toInt32) &&& (255 : Int32)).toUInt32 >>> ((5 : Int32) &&& 31).toUInt32).toInt32) &&& (1 : Int32))), .val (.int ((((b0 &&& (255 : Int32)).toUInt32 >>> ((5 : Int32) &&& 31).toUInt32).toInt32) &&& (1 : Int32))), .unset]) rfl kq)
    show Win p e below _ T49 (mkF mt 225 #[.val (.int t_), .val (.int first), .val (.int rest_), .val (.int sel), .val (.int tag), .val (.int b0), .val (.int b1), .val (.int b2), .val (.int b3), .val (.int (1 : Int32)), .val (.ref b42), .val (.ref rr), .val (.int (((((128 : Int32) ||| (b0 &&& (32 : Int32))) ||| tag).toInt8.toInt32) &&& (255 : Int32))), .val (.int (((((((128 : Int32) ||| (b0 &&& (32 : Int32))) ||| tag).toInt8.toInt32) &&& (255 : Int32)).toUInt32 >>> ((6 : Int32) &&& 31).toUInt32).toInt32)), .val (.int ((((((((128 : Int32) ||| (b0 &&& (32 : Int32))) ||| tag).toInt8.toInt32) &&& (255 : Int32)).toUInt32 >>> ((5 : Int32) &&& 31).toUInt32).toInt32) &&& (1 : Int32))), .val (.int ((((b0 &&& (255 : Int32)).toUInt32 >>> ((5 : Int32) &&& 31).toUInt32).toInt32) &&& (1 : Int32))), .unset] [])
    refine Win.st ?_ (fun tq kq => XS.iload X49.here hx rfl (hb hby at_225) rfl kq)
    show Win p e below _ T49 (mkF mt 227 #[.val (.int t_), .val (.int first), .val (.int rest_), .val (.int sel), .val (.int tag), .val (.int b0), .val (.int b1), .val (.int b2), .val (.int b3), .val (.int (1 : Int32)), .val (.ref b42), .val (.ref rr), .val (.int (((((128 : Int32) ||| (b0 &&& (32 : Int32))) ||| tag).toInt8.toInt32) &&& (255 : Int32))), .val (.int (((((((128 : Int32) ||| (b0 &&& (32 : Int32))) ||| tag).toInt8.toInt32) &&& (255 : Int32)).toUInt32 >>> ((6 : Int32) &&& 31).toUInt32).toInt32)), .val (.int ((((((((128 : Int32) ||| (b0 &&& (32 : Int32))) ||| tag).toInt8.toInt32) &&& (255 : Int32)).toUInt32 >>> ((5 : Int32) &&& 31).toUInt32).toInt32) &&& (1 : Int32))), .val (.int ((((b0 &&& (255 : Int32)).toUInt32 >>> ((5 : Int32) &&& 31).toUInt32).toInt32) &&& (1 : Int32))), .unset] [(.int (((((128 : Int32) ||| (b0 &&& (32 : Int32))) ||| tag).toInt8.toInt32) &&& (255 : Int32)))])
    refine Win.st ?_ (fun tq kq => XS.bipush X49.here hx rfl (hb hby at_227) kq)
    show Win p e below _ T49 (mkF mt 229 #[.val (.int t_), .val (.int first), .val (.int rest_), .val (.int sel), .val (.int tag), .val (.int b0), .val (.int b1), .val (.int b2), .val (.int b3), .val (.int (1 : Int32)), .val (.ref b42), .val (.ref rr), .val (.int (((((128 : Int32) ||| (b0 &&& (32 : Int32))) ||| tag).toInt8.toInt32) &&& (255 : Int32))), .val (.int (((((((128 : Int32) ||| (b0 &&& (32 : Int32))) ||| tag).toInt8.toInt32) &&& (255 : Int32)).toUInt32 >>> ((6 : Int32) &&& 31).toUInt32).toInt32)), .val (.int ((((((((128 : Int32) ||| (b0 &&& (32 : Int32))) ||| tag).toInt8.toInt32) &&& (255 : Int32)).toUInt32 >>> ((5 : Int32) &&& 31).toUInt32).toInt32) &&& (1 : Int32))), .val (.int ((((b0 &&& (255 : Int32)).toUInt32 >>> ((5 : Int32) &&& 31).toUInt32).toInt32) &&& (1 : Int32))), .unset] [(.int (31 : Int32)), (.int (((((128 : Int32) ||| (b0 &&& (32 : Int32))) ||| tag).toInt8.toInt32) &&& (255 : Int32)))])
    refine Win.st ?_ (fun tq kq => XS.iand X49.here hx rfl (hb hby at_229) rfl kq)
    show Win p e below _ T49 (mkF mt 230 #[.val (.int t_), .val (.int first), .val (.int rest_), .val (.int sel), .val (.int tag), .val (.int b0), .val (.int b1), .val (.int b2), .val (.int b3), .val (.int (1 : Int32)), .val (.ref b42), .val (.ref rr), .val (.int (((((128 : Int32) ||| (b0 &&& (32 : Int32))) ||| tag).toInt8.toInt32) &&& (255 : Int32))), .val (.int (((((((128 : Int32) ||| (b0 &&& (32 : Int32))) ||| tag).toInt8.toInt32) &&& (255 : Int32)).toUInt32 >>> ((6 : Int32) &&& 31).toUInt32).toInt32)), .val (.int ((((((((128 : Int32) ||| (b0 &&& (32 : Int32))) ||| tag).toInt8.toInt32) &&& (255 : Int32)).toUInt32 >>> ((5 : Int32) &&& 31).toUInt32).toInt32) &&& (1 : Int32))), .val (.int ((((b0 &&& (255 : Int32)).toUInt32 >>> ((5 : Int32) &&& 31).toUInt32).toInt32) &&& (1 : Int32))), .unset] [(.int ((((((128 : Int32) ||| (b0 &&& (32 : Int32))) ||| tag).toInt8.toInt32) &&& (255 : Int32)) &&& (31 : Int32)))])
    refine Win.st ?_ (fun tq kq => XS.istore X49.here hx rfl (hb hby at_230) rfl (l' := #[.val (.int t_), .val (.int first), .val (.int rest_), .val (.int sel), .val (.int tag), .val (.int b0), .val (.int b1), .val (.int b2), .val (.int b3), .val (.int (1 : Int32)), .val (.ref b42), .val (.ref rr), .val (.int (((((128 : Int32) ||| (b0 &&& (32 : Int32))) ||| tag).toInt8.toInt32) &&& (255 : Int32))), .val (.int (((((((128 : Int32) ||| (b0 &&& (32 : Int32))) ||| tag).toInt8.toInt32) &&& (255 : Int32)).toUInt32 >>> ((6 : Int32) &&& 31).toUInt32).toInt32)), .val (.int ((((((((128 : Int32) ||| (b0 &&& (32 : Int32))) ||| tag).toInt8.toInt32) &&& (255 : Int32)).toUInt32 >>> ((5 : Int32) &&& 31).toUInt32).toInt32) &&& (1 : Int32))), .val (.int ((((b0 &&& (255 : Int32)).toUInt32 >>> ((5 : Int32) &&& 31).toUInt32).toInt32) &&& (1 : Int32))), .val (.int ((((((128 : Int32) ||| (b0 &&& (32 : Int32))) ||| tag).toInt8.toInt32) &&& (255 : Int32)) &&& (31 : Int32)))]) rfl kq)
    show Win p e below _ T49 (mkF mt 232 #[.val (.int t_), .val (.int first), .val (.int rest_), .val (.int sel), .val (.int tag), .val (.int b0), .val (.int b1), .val (.int b2), .val (.int b3), .val (.int (1 : Int32)), .val (.ref b42), .val (.ref rr), .val (.int (((((128 : Int32) ||| (b0 &&& (32 : Int32))) ||| tag).toInt8.toInt32) &&& (255 : Int32))), .val (.int (((((((128 : Int32) ||| (b0 &&& (32 : Int32))) ||| tag).toInt8.toInt32) &&& (255 : Int32)).toUInt32 >>> ((6 : Int32) &&& 31).toUInt32).toInt32)), .val (.int ((((((((128 : Int32) ||| (b0 &&& (32 : Int32))) ||| tag).toInt8.toInt32) &&& (255 : Int32)).toUInt32 >>> ((5 : Int32) &&& 31).toUInt32).toInt32) &&& (1 : Int32))), .val (.int ((((b0 &&& (255 : Int32)).toUInt32 >>> ((5 : Int32) &&& 31).toUInt32).toInt32) &&& (1 : Int32))), .val (.int ((((((128 : Int32) ||| (b0 &&& (32 : Int32))) ||| tag).toInt8.toInt32) &&& (255 : Int32)) &&& (31 : Int32)))] [])
    refine Win.st ?_ (fun tq kq => XS.iload X49.here hx rfl (hb hby at_232) rfl kq)
    show Win p e below _ T49 (mkF mt 234 #[.val (.int t_), .val (.int first), .val (.int rest_), .val (.int sel), .val (.int tag), .val (.int b0), .val (.int b1), .val (.int b2), .val (.int b3), .val (.int (1 : Int32)), .val (.ref b42), .val (.ref rr), .val (.int (((((128 : Int32) ||| (b0 &&& (32 : Int32))) ||| tag).toInt8.toInt32) &&& (255 : Int32))), .val (.int (((((((128 : Int32) ||| (b0 &&& (32 : Int32))) ||| tag).toInt8.toInt32) &&& (255 : Int32)).toUInt32 >>> ((6 : Int32) &&& 31).toUInt32).toInt32)), .val (.int ((((((((128 : Int32) ||| (b0 &&& (32 : Int32))) ||| tag).toInt8.toInt32) &&& (255 : Int32)).toUInt32 >>> ((5 : Int32) &&& 31).toUInt32).toInt32) &&& (1 : Int32))), .val (.int ((((b0 &&& (255 : Int32)).toUInt32 >>> ((5 : Int32) &&& 31).toUInt32).toInt32) &&& (1 : Int32))), .val (.int ((((((128 : Int32) ||| (b0 &&& (32 : Int32))) ||| tag).toInt8.toInt32) &&& (255 : Int32)) &&& (31 : Int32)))] [(.int (((((((128 : Int32) ||| (b0 &&& (32 : Int32))) ||| tag).toInt8.toInt32) &&& (255 : Int32)).toUInt32 >>> ((6 : Int32) &&& 31).toUInt32).toInt32))])
    refine Win.st ?_ (fun tq kq => XS.iconst X49.here hx rfl (hb hby at_234) kq)
    show Win p e below _ T49 (mkF mt 235 #[.val (.int t_), .val (.int first), .val (.int rest_), .val (.int sel), .val (.int tag), .val (.int b0), .val (.int b1), .val (.int b2), .val (.int b3), .val (.int (1 : Int32)), .val (.ref b42), .val (.ref rr), .val (.int (((((128 : Int32) ||| (b0 &&& (32 : Int32))) ||| tag).toInt8.toInt32) &&& (255 : Int32))), .val (.int (((((((128 : Int32) ||| (b0 &&& (32 : Int32))) ||| tag).toInt8.toInt32) &&& (255 : Int32)).toUInt32 >>> ((6 : Int32) &&& 31).toUInt32).toInt32)), .val (.int ((((((((128 : Int32) ||| (b0 &&& (32 : Int32))) ||| tag).toInt8.toInt32) &&& (255 : Int32)).toUInt32 >>> ((5 : Int32) &&& 31).toUInt32).toInt32) &&& (1 : Int32))), .val (.int ((((b0 &&& (255 : Int32)).toUInt32 >>> ((5 : Int32) &&& 31).toUInt32).toInt32) &&& (1 : Int32))), .val (.int ((((((128 : Int32) ||| (b0 &&& (32 : Int32))) ||| tag).toInt8.toInt32) &&& (255 : Int32)) &&& (31 : Int32)))] [(.int (2 : Int32)), (.int (((((((128 : Int32) ||| (b0 &&& (32 : Int32))) ||| tag).toInt8.toInt32) &&& (255 : Int32)).toUInt32 >>> ((6 : Int32) &&& 31).toUInt32).toInt32))])
    refine Win.st ?_ (fun tq kq => XS.icmpNo X49.here hx rfl (hb hby at_235) rfl (teq (own_der b0 tag hc0 ht.1 ht.2).1).2 kq)
    show Win p e below _ T49 (mkF mt 238 #[.val (.int t_), .val (.int first), .val (.int rest_), .val (.int sel), .val (.int tag), .val (.int b0), .val (.int b1), .val (.int b2), .val (.int b3), .val (.int (1 : Int32)), .val (.ref b42), .val (.ref rr), .val (.int (((((128 : Int32) ||| (b0 &&& (32 : Int32))) ||| tag).toInt8.toInt32) &&& (255 : Int32))), .val (.int (((((((128 : Int32) ||| (b0 &&& (32 : Int32))) ||| tag).toInt8.toInt32) &&& (255 : Int32)).toUInt32 >>> ((6 : Int32) &&& 31).toUInt32).toInt32)), .val (.int ((((((((128 : Int32) ||| (b0 &&& (32 : Int32))) ||| tag).toInt8.toInt32) &&& (255 : Int32)).toUInt32 >>> ((5 : Int32) &&& 31).toUInt32).toInt32) &&& (1 : Int32))), .val (.int ((((b0 &&& (255 : Int32)).toUInt32 >>> ((5 : Int32) &&& 31).toUInt32).toInt32) &&& (1 : Int32))), .val (.int ((((((128 : Int32) ||| (b0 &&& (32 : Int32))) ||| tag).toInt8.toInt32) &&& (255 : Int32)) &&& (31 : Int32)))] [])
    refine Win.st ?_ (fun tq kq => XS.iload X49.here hx rfl (hb hby at_238) rfl kq)
    show Win p e below _ T49 (mkF mt 240 #[.val (.int t_), .val (.int first), .val (.int rest_), .val (.int sel), .val (.int tag), .val (.int b0), .val (.int b1), .val (.int b2), .val (.int b3), .val (.int (1 : Int32)), .val (.ref b42), .val (.ref rr), .val (.int (((((128 : Int32) ||| (b0 &&& (32 : Int32))) ||| tag).toInt8.toInt32) &&& (255 : Int32))), .val (.int (((((((128 : Int32) ||| (b0 &&& (32 : Int32))) ||| tag).toInt8.toInt32) &&& (255 : Int32)).toUInt32 >>> ((6 : Int32) &&& 31).toUInt32).toInt32)), .val (.int ((((((((128 : Int32) ||| (b0 &&& (32 : Int32))) ||| tag).toInt8.toInt32) &&& (255 : Int32)).toUInt32 >>> ((5 : Int32) &&& 31).toUInt32).toInt32) &&& (1 : Int32))), .val (.int ((((b0 &&& (255 : Int32)).toUInt32 >>> ((5 : Int32) &&& 31).toUInt32).toInt32) &&& (1 : Int32))), .val (.int ((((((128 : Int32) ||| (b0 &&& (32 : Int32))) ||| tag).toInt8.toInt32) &&& (255 : Int32)) &&& (31 : Int32)))] [(.int ((((((((128 : Int32) ||| (b0 &&& (32 : Int32))) ||| tag).toInt8.toInt32) &&& (255 : Int32)).toUInt32 >>> ((5 : Int32) &&& 31).toUInt32).toInt32) &&& (1 : Int32)))])
    refine Win.st ?_ (fun tq kq => XS.iload X49.here hx rfl (hb hby at_240) rfl kq)
    show Win p e below _ T49 (mkF mt 242 #[.val (.int t_), .val (.int first), .val (.int rest_), .val (.int sel), .val (.int tag), .val (.int b0), .val (.int b1), .val (.int b2), .val (.int b3), .val (.int (1 : Int32)), .val (.ref b42), .val (.ref rr), .val (.int (((((128 : Int32) ||| (b0 &&& (32 : Int32))) ||| tag).toInt8.toInt32) &&& (255 : Int32))), .val (.int (((((((128 : Int32) ||| (b0 &&& (32 : Int32))) ||| tag).toInt8.toInt32) &&& (255 : Int32)).toUInt32 >>> ((6 : Int32) &&& 31).toUInt32).toInt32)), .val (.int ((((((((128 : Int32) ||| (b0 &&& (32 : Int32))) ||| tag).toInt8.toInt32) &&& (255 : Int32)).toUInt32 >>> ((5 : Int32) &&& 31).toUInt32).toInt32) &&& (1 : Int32))), .val (.int ((((b0 &&& (255 : Int32)).toUInt32 >>> ((5 : Int32) &&& 31).toUInt32).toInt32) &&& (1 : Int32))), .val (.int ((((((128 : Int32) ||| (b0 &&& (32 : Int32))) ||| tag).toInt8.toInt32) &&& (255 : Int32)) &&& (31 : Int32)))] [(.int ((((b0 &&& (255 : Int32)).toUInt32 >>> ((5 : Int32) &&& 31).toUInt32).toInt32) &&& (1 : Int32))), (.int ((((((((128 : Int32) ||| (b0 &&& (32 : Int32))) ||| tag).toInt8.toInt32) &&& (255 : Int32)).toUInt32 >>> ((5 : Int32) &&& 31).toUInt32).toInt32) &&& (1 : Int32)))])
    refine Win.st ?_ (fun tq kq => XS.icmpNo X49.here hx rfl (hb hby at_242) rfl (teq (own_der b0 tag hc0 ht.1 ht.2).2.1).2 kq)
    show Win p e below _ T49 (mkF mt 245 #[.val (.int t_), .val (.int first), .val (.int rest_), .val (.int sel), .val (.int tag), .val (.int b0), .val (.int b1), .val (.int b2), .val (.int b3), .val (.int (1 : Int32)), .val (.ref b42), .val (.ref rr), .val (.int (((((128 : Int32) ||| (b0 &&& (32 : Int32))) ||| tag).toInt8.toInt32) &&& (255 : Int32))), .val (.int (((((((128 : Int32) ||| (b0 &&& (32 : Int32))) ||| tag).toInt8.toInt32) &&& (255 : Int32)).toUInt32 >>> ((6 : Int32) &&& 31).toUInt32).toInt32)), .val (.int ((((((((128 : Int32) ||| (b0 &&& (32 : Int32))) ||| tag).toInt8.toInt32) &&& (255 : Int32)).toUInt32 >>> ((5 : Int32) &&& 31).toUInt32).toInt32) &&& (1 : Int32))), .val (.int ((((b0 &&& (255 : Int32)).toUInt32 >>> ((5 : Int32) &&& 31).toUInt32).toInt32) &&& (1 : Int32))), .val (.int ((((((128 : Int32) ||| (b0 &&& (32 : Int32))) ||| tag).toInt8.toInt32) &&& (255 : Int32)) &&& (31 : Int32)))] [])
    refine Win.st ?_ (fun tq kq => XS.iload X49.here hx rfl (hb hby at_245) rfl kq)
    show Win p e below _ T49 (mkF mt 247 #[.val (.int t_), .val (.int first), .val (.int rest_), .val (.int sel), .val (.int tag), .val (.int b0), .val (.int b1), .val (.int b2), .val (.int b3), .val (.int (1 : Int32)), .val (.ref b42), .val (.ref rr), .val (.int (((((128 : Int32) ||| (b0 &&& (32 : Int32))) ||| tag).toInt8.toInt32) &&& (255 : Int32))), .val (.int (((((((128 : Int32) ||| (b0 &&& (32 : Int32))) ||| tag).toInt8.toInt32) &&& (255 : Int32)).toUInt32 >>> ((6 : Int32) &&& 31).toUInt32).toInt32)), .val (.int ((((((((128 : Int32) ||| (b0 &&& (32 : Int32))) ||| tag).toInt8.toInt32) &&& (255 : Int32)).toUInt32 >>> ((5 : Int32) &&& 31).toUInt32).toInt32) &&& (1 : Int32))), .val (.int ((((b0 &&& (255 : Int32)).toUInt32 >>> ((5 : Int32) &&& 31).toUInt32).toInt32) &&& (1 : Int32))), .val (.int ((((((128 : Int32) ||| (b0 &&& (32 : Int32))) ||| tag).toInt8.toInt32) &&& (255 : Int32)) &&& (31 : Int32)))] [(.int ((((((128 : Int32) ||| (b0 &&& (32 : Int32))) ||| tag).toInt8.toInt32) &&& (255 : Int32)) &&& (31 : Int32)))])
    refine Win.st ?_ (fun tq kq => XS.iload X49.here hx rfl (hb hby at_247) rfl kq)
    show Win p e below _ T49 (mkF mt 249 #[.val (.int t_), .val (.int first), .val (.int rest_), .val (.int sel), .val (.int tag), .val (.int b0), .val (.int b1), .val (.int b2), .val (.int b3), .val (.int (1 : Int32)), .val (.ref b42), .val (.ref rr), .val (.int (((((128 : Int32) ||| (b0 &&& (32 : Int32))) ||| tag).toInt8.toInt32) &&& (255 : Int32))), .val (.int (((((((128 : Int32) ||| (b0 &&& (32 : Int32))) ||| tag).toInt8.toInt32) &&& (255 : Int32)).toUInt32 >>> ((6 : Int32) &&& 31).toUInt32).toInt32)), .val (.int ((((((((128 : Int32) ||| (b0 &&& (32 : Int32))) ||| tag).toInt8.toInt32) &&& (255 : Int32)).toUInt32 >>> ((5 : Int32) &&& 31).toUInt32).toInt32) &&& (1 : Int32))), .val (.int ((((b0 &&& (255 : Int32)).toUInt32 >>> ((5 : Int32) &&& 31).toUInt32).toInt32) &&& (1 : Int32))), .val (.int ((((((128 : Int32) ||| (b0 &&& (32 : Int32))) ||| tag).toInt8.toInt32) &&& (255 : Int32)) &&& (31 : Int32)))] [(.int tag), (.int ((((((128 : Int32) ||| (b0 &&& (32 : Int32))) ||| tag).toInt8.toInt32) &&& (255 : Int32)) &&& (31 : Int32)))])
    refine Win.st ?_ (fun tq kq => XS.icmpNo X49.here hx rfl (hb hby at_249) rfl (teq (own_der b0 tag hc0 ht.1 ht.2).2.2).2 kq)
    show Win p e below _ T49 (mkF mt 252 #[.val (.int t_), .val (.int first), .val (.int rest_), .val (.int sel), .val (.int tag), .val (.int b0), .val (.int b1), .val (.int b2), .val (.int b3), .val (.int (1 : Int32)), .val (.ref b42), .val (.ref rr), .val (.int (((((128 : Int32) ||| (b0 &&& (32 : Int32))) ||| tag).toInt8.toInt32) &&& (255 : Int32))), .val (.int (((((((128 : Int32) ||| (b0 &&& (32 : Int32))) ||| tag).toInt8.toInt32) &&& (255 : Int32)).toUInt32 >>> ((6 : Int32) &&& 31).toUInt32).toInt32)), .val (.int ((((((((128 : Int32) ||| (b0 &&& (32 : Int32))) ||| tag).toInt8.toInt32) &&& (255 : Int32)).toUInt32 >>> ((5 : Int32) &&& 31).toUInt32).toInt32) &&& (1 : Int32))), .val (.int ((((b0 &&& (255 : Int32)).toUInt32 >>> ((5 : Int32) &&& 31).toUInt32).toInt32) &&& (1 : Int32))), .val (.int ((((((128 : Int32) ||| (b0 &&& (32 : Int32))) ||| tag).toInt8.toInt32) &&& (255 : Int32)) &&& (31 : Int32)))] [])
    refine Win.st ?_ (fun tq kq => XS.iconst X49.here hx rfl (hb hby at_252) kq)
    show Win p e below _ T49 (mkF mt 253 #[.val (.int t_), .val (.int first), .val (.int rest_), .val (.int sel), .val (.int tag), .val (.int b0), .val (.int b1), .val (.int b2), .val (.int b3), .val (.int (1 : Int32)), .val (.ref b42), .val (.ref rr), .val (.int (((((128 : Int32) ||| (b0 &&& (32 : Int32))) ||| tag).toInt8.toInt32) &&& (255 : Int32))), .val (.int (((((((128 : Int32) ||| (b0 &&& (32 : Int32))) ||| tag).toInt8.toInt32) &&& (255 : Int32)).toUInt32 >>> ((6 : Int32) &&& 31).toUInt32).toInt32)), .val (.int ((((((((128 : Int32) ||| (b0 &&& (32 : Int32))) ||| tag).toInt8.toInt32) &&& (255 : Int32)).toUInt32 >>> ((5 : Int32) &&& 31).toUInt32).toInt32) &&& (1 : Int32))), .val (.int ((((b0 &&& (255 : Int32)).toUInt32 >>> ((5 : Int32) &&& 31).toUInt32).toInt32) &&& (1 : Int32))), .val (.int ((((((128 : Int32) ||| (b0 &&& (32 : Int32))) ||| tag).toInt8.toInt32) &&& (255 : Int32)) &&& (31 : Int32)))] [(.int (1 : Int32))])
    refine Win.st ?_ (fun tq kq => XS.goto X49.here hx rfl (pc0 := 253) (pc' := 257) rfl (hb hby at_253) (by decide) (by decide) kq)
    show Win p e below _ T49 (mkF mt 257 #[.val (.int t_), .val (.int first), .val (.int rest_), .val (.int sel), .val (.int tag), .val (.int b0), .val (.int b1), .val (.int b2), .val (.int b3), .val (.int (1 : Int32)), .val (.ref b42), .val (.ref rr), .val (.int (((((128 : Int32) ||| (b0 &&& (32 : Int32))) ||| tag).toInt8.toInt32) &&& (255 : Int32))), .val (.int (((((((128 : Int32) ||| (b0 &&& (32 : Int32))) ||| tag).toInt8.toInt32) &&& (255 : Int32)).toUInt32 >>> ((6 : Int32) &&& 31).toUInt32).toInt32)), .val (.int ((((((((128 : Int32) ||| (b0 &&& (32 : Int32))) ||| tag).toInt8.toInt32) &&& (255 : Int32)).toUInt32 >>> ((5 : Int32) &&& 31).toUInt32).toInt32) &&& (1 : Int32))), .val (.int ((((b0 &&& (255 : Int32)).toUInt32 >>> ((5 : Int32) &&& 31).toUInt32).toInt32) &&& (1 : Int32))), .val (.int ((((((128 : Int32) ||| (b0 &&& (32 : Int32))) ||| tag).toInt8.toInt32) &&& (255 : Int32)) &&& (31 : Int32)))] [(.int (1 : Int32))])
    exact Win.retN X49 hx hlk e49 (t := .boolean) (z' := (1 : Int32)) hrt (by simp) (hb hby at_257) (by decide) (by decide) rfl ⟨rfl, N49⟩
set_option maxRecDepth 65536 in
set_option maxHeartbeats 40000000 in
theorem comes_1 {Post : Tables → Env → Array Value → State → Outcome → State → Prop} (hpost : ∀ tb e args s v u, (limb_1_1.after args s (.returned v) u = true ∧ limb_1_2.after args s (.returned v) u = true ∧ True) → FrameEnd s (.returned v) u (Jvm.fieldLocs frame_1_writes args s ++ Jvm.arrayLocs frame_1_arrays args s ++ Jvm.staticLocs frame_1_statics s) 16 128 → Post tb e args s (.returned v) u) :
    ArmFor flags0 classFile x code maxLocals ret World_1 tables_1 room_1 Calls_1 rest_1 Pre_1 Post := by
  intro l hfl _ _ p e ha hc hk s m args below hf hA hF happ hP
  obtain ⟨hcalls, hrest, hpre⟩ := hP
  obtain ⟨-, -, -, hnamed, -, -, -, hat⟩ := (Spec.applies_iff hf).mp happ
  obtain ⟨hg, hn⟩ := and_e (Cond.before_iff.mp (show (Jvm.Cond.and given_1 narrow_1).before args s = true from hpre))
  obtain ⟨ga0, gb0⟩ := and_e hg
  obtain ⟨ga1, gb1⟩ := and_e gb0
  obtain ⟨ga2, gb2⟩ := and_e gb1
  obtain ⟨ga3, gb3⟩ := and_e gb2
  obtain ⟨w0, w1, w2, w3, rfl⟩ : ∃ w0 w1 w2 w3 : Value, args = #[w0, w1, w2, w3] := by
    have hs : args.size = 4 := by simpa [Cond.value, given_1] using ga0
    obtain ⟨L⟩ := args
    match L, hs with
    | [w0, w1, w2, w3], _ => exact ⟨w0, w1, w2, w3, rfl⟩
  have hw := fun d (hd : d ∈ tables_1) => atoms_spec (ws := Jvm.Cond.code x code maxLocals ret :: tables_1) hat d (List.mem_cons_of_mem _ hd)
  have hfit : Fit s := fun {y c} hc i hi => by
    obtain ⟨ha, rfl⟩ := Array.getElem?_eq_some_iff.mp hc
    have q := List.all_eq_true.mp ((Array.all_eq_true_iff_forall_mem.mp hF) _ (Array.getElem_mem ha)) i (List.mem_range.mpr hi)
    simpa [Array.getElem?_eq_getElem hi] using q
  obtain ⟨i0, ei0⟩ := is_v ga1
  obtain rfl : w0 = (.int i0) := Option.some.inj ei0
  obtain ⟨i1, ei1⟩ := is_v ga2
  obtain rfl : w1 = (.int i1) := Option.some.inj ei1
  obtain ⟨i2, ei2⟩ := is_v ga3
  obtain rfl : w2 = (.int i2) := Option.some.inj ei2
  obtain ⟨i3, ei3⟩ := is_v gb3
  obtain rfl : w3 = (.int i3) := Option.some.inj ei3
  obtain ⟨n, o, h1, h2, h3, _, L, rfl, ⟨rfl, N⟩, hq⟩ := rm_law l s _ hw tables_1 i0 i1 i2 i3  s.heap s.heap.size (Nat.le_refl _)  p e ha hc hk s m _ below hf ((Spec.applies_iff_loose hf).mp happ).1 ⟨rfl, State.Warmed39.refl s, rfl⟩ trivial
  refine ⟨n, _, h1, h2, h3, hpost _ _ _ _ _ _ ⟨Cond.after_iff.mpr rfl, Cond.after_iff.mpr (eq_i res_at (Term.int_eval (1)) rfl), trivial⟩ ⟨hq.1, hq.2.1, (hq.2.2.sift fun y hy => Or.inr (N y hy)).mono (by decide) (by decide)⟩⟩
theorem main_1_1 : Claimed_1_1 := comes_1 fun _ _ _ _ _ _ h hF => ⟨h.1, hF⟩
theorem main_1_2 : Claimed_1_2 := comes_1 fun _ _ _ _ _ _ h hF => ⟨h.2.1, hF⟩
end Jvm.Pilot.@@N@@
namespace Jvm.Pilot.@@N@@
open Jvm Jvm.ClassFile Sem Op Lib Jvm.Free Jvm.Stand Jvm.Pilot.@@N@@.Jvm.D
/-! MADE BY PROGRAM (witnessworld.py) out of the Statement's table words and the real class files: 9 classes; the members and pool entries that the words name. The judged class is class 1, her method 1. -/
namespace start1
open Jvm.ClassFile
def u (s : String) : CpInfo := .utf8 (stringToUtf16 s)
/-- a pool by its gaps: so many unusable entries, then the entry; so many at the end -/
def gap : Nat → List CpInfo → List CpInfo
  | 0, r => r
  | n + 1, r => .unusable :: gap n r
def poolList (es : List (Nat × CpInfo)) (last : Nat) : List CpInfo := es.foldr (fun e r => gap e.1 (e.2 :: r)) (gap last [])
def pool (es : List (Nat × CpInfo)) (last : Nat) : Array CpInfo := ⟨poolList es last⟩
def fileOf (pool : Array CpInfo) (this : Nat) (attrs : Array Attribute := #[]) (ms : Array MethodInfo := #[]) (fl : Nat := 33) (sup : Nat := 0) (ifs : Array Nat := #[]) (fds : Array FieldInfo := #[]) : ClassFile where
  minorVersion := 0
  majorVersion := 65
  constantPool := pool
  accessFlags := fl
  thisClass := this
  superClass := sup
  interfaces := ifs
  fields := fds
  methods := ms
  attributes := attrs
def plain (name : String) (sup : Option ClassId) : Class where
  name := name
  kind := .ordinary
  loader := none
  accessFlags := 33
  super := sup
  interfaces := #[]
  cf := none
  fields := #[]
  methods := #[]
  instanceTypes := #[]
  staticTypes := #[]
  resolved := #[]
  callSites := []
  init := .initialized
  statics := none
  mirror := none

def pool0 : Array CpInfo := pool [(5, u "<init>"), (0, u "()V"), (1, .class_ 10), (1, u "java/lang/Object"), (85, u "clone"), (0, u "()Ljava/lang/Object;")] 26

def k0m0 : Method := { name := "<init>", desc := "()V", sig := { parameters := [], returnType := none }, accessFlags := 1, code := none }
def k0m1 : Method := { name := "clone", desc := "()Ljava/lang/Object;", sig := { parameters := [], returnType := some (.object "java/lang/Object") }, accessFlags := 260, code := none }
/-- java/lang/Object -/
def k0 : Class := { plain "java/lang/Object" none with
  accessFlags := 33
  interfaces := #[]
  cf := some (fileOf pool0 8 #[] #[{ accessFlags := 1, nameIndex := 5, descriptorIndex := 6, attributes := #[] }, { accessFlags := 260, nameIndex := 96, descriptorIndex := 97, attributes := #[] }] 33 0 #[] #[])
  fields := #[]
  methods := #[k0m0, k0m1]
  instanceTypes := #[]
  staticTypes := #[]
  resolved := Array.replicate 124 none
  statics := none }

def pool1 : Array CpInfo := pool [(2, .class_ 4), (1, u "java/lang/Object"), (0, u "<init>"), (0, u "()V"), (0, .integer 2147483647), (0, .methodref 9 10), (0, .class_ 11), (0, .nameAndType 12 13), (0, u "com/example/foldkey/foldkey/encoding/Der"), (0, u "implicit"), (0, u "(I[B)[B"), (0, .class_ 15), (0, u "com/example/foldkey/foldkey/encoding/DerImplicitPinLaw"), (2, u "law"), (0, u "(IIII)Z")] 5

def k1m0 : Method := { name := "<init>", desc := "()V", sig := { parameters := [], returnType := none }, accessFlags := 1, code := none }
def k1c1 : Code := { maxStack := 4, maxLocals := 17, code := code, exceptionTable := #[], attributes := #[] }
def k1m1 : Method := { name := "law", desc := "(IIII)Z", sig := { parameters := [.int, .int, .int, .int], returnType := some .boolean }, accessFlags := 9, code := some k1c1 }
/-- com/example/foldkey/foldkey/encoding/DerImplicitPinLaw -/
def k1 : Class := { plain "com/example/foldkey/foldkey/encoding/DerImplicitPinLaw" (some 0) with
  accessFlags := 49
  interfaces := #[]
  cf := some (fileOf pool1 14 #[] #[{ accessFlags := 1, nameIndex := 5, descriptorIndex := 6, attributes := #[] }, { accessFlags := 9, nameIndex := 18, descriptorIndex := 19, attributes := #[] }] 49 2 #[] #[])
  fields := #[]
  methods := #[k1m0, k1m1]
  instanceTypes := #[]
  staticTypes := #[]
  resolved := Array.replicate 25 none
  statics := none }

def pool2 : Array CpInfo := pool [(2, .class_ 4), (1, u "java/lang/Object"), (0, u "<init>"), (0, u "()V"), (1, .class_ 10), (1, u "com/example/foldkey/foldkey/encoding/Der"), (5, u "(I[B)[B"), (0, .methodref 18 19), (0, .class_ 20), (0, .nameAndType 21 22), (0, u "[B"), (0, u "clone"), (0, u "()Ljava/lang/Object;"), (82, u "UTC_TIME_END"), (0, u "Ljava/time/Instant;"), (8, u "UTC_TIME"), (0, u "Ljava/time/format/DateTimeFormatter;"), (8, u "GENERALIZED_TIME"), (53, u "CONSTRUCTED"), (0, u "I"), (8, u "implicit")] 51

def k2m0 : Method := { name := "<init>", desc := "()V", sig := { parameters := [], returnType := none }, accessFlags := 2, code := none }
def k2c1 : Code := { maxStack := 5, maxLocals := 3, code := prog_5_method_5_code, exceptionTable := #[], attributes := #[] }
def k2m1 : Method := { name := "implicit", desc := "(I[B)[B", sig := { parameters := [.int, (.array .byte)], returnType := some (.array .byte) }, accessFlags := 9, code := some k2c1 }
/-- com/example/foldkey/foldkey/encoding/Der -/
def k2 : Class := { plain "com/example/foldkey/foldkey/encoding/Der" (some 0) with
  accessFlags := 49
  interfaces := #[]
  cf := some (fileOf pool2 8 #[] #[{ accessFlags := 2, nameIndex := 5, descriptorIndex := 6, attributes := #[] }, { accessFlags := 9, nameIndex := 189, descriptorIndex := 16, attributes := #[] }] 49 2 #[] #[{ accessFlags := 26, nameIndex := 115, descriptorIndex := 116, attributes := #[] }, { accessFlags := 26, nameIndex := 125, descriptorIndex := 116, attributes := #[] }, { accessFlags := 26, nameIndex := 105, descriptorIndex := 106, attributes := #[] }, { accessFlags := 26, nameIndex := 179, descriptorIndex := 180, attributes := #[] }])
  fields := #[{ name := "UTC_TIME", type := (.object "java/time/format/DateTimeFormatter"), accessFlags := 26, slot := 0, constantValue := 0 }, { name := "GENERALIZED_TIME", type := (.object "java/time/format/DateTimeFormatter"), accessFlags := 26, slot := 1, constantValue := 0 }, { name := "UTC_TIME_END", type := (.object "java/time/Instant"), accessFlags := 26, slot := 2, constantValue := 0 }, { name := "CONSTRUCTED", type := .int, accessFlags := 26, slot := 3, constantValue := 0 }]
  methods := #[k2m0, k2m1]
  instanceTypes := #[]
  staticTypes := #[(.object "java/time/format/DateTimeFormatter"), (.object "java/time/format/DateTimeFormatter"), (.object "java/time/Instant"), .int]
  resolved := Array.replicate 241 none
  statics := none }

def pool3 : Array CpInfo := pool [(1, .class_ 2), (0, u "java/lang/Cloneable"), (0, .class_ 4), (0, u "java/lang/Object")] 2

/-- java/lang/Cloneable -/
def k3 : Class := { plain "java/lang/Cloneable" (some 0) with
  accessFlags := 1537
  interfaces := #[]
  cf := some (fileOf pool3 1 #[] #[] 1537 3 #[] #[])
  fields := #[]
  methods := #[]
  instanceTypes := #[]
  staticTypes := #[]
  resolved := Array.replicate 7 none
  statics := none }

def pool4 : Array CpInfo := pool [(1, u "java/io/Serializable"), (0, .class_ 1), (0, u "java/lang/Object"), (0, .class_ 3)] 3

/-- java/io/Serializable -/
def k4 : Class := { plain "java/io/Serializable" (some 0) with
  accessFlags := 1537
  interfaces := #[]
  cf := some (fileOf pool4 2 #[] #[] 1537 4 #[] #[])
  fields := #[]
  methods := #[]
  instanceTypes := #[]
  staticTypes := #[]
  resolved := Array.replicate 8 none
  statics := none }

/-- the primitive byte -/
def k5 : Class := { plain "byte" none with kind := .primitive 'B', accessFlags := 0x411 }
/-- [B -/
def k6 : Class := { plain "[B" (some 0) with kind := .array 5 .byte, interfaces := #[3, 4], accessFlags := 1041 }

/-- the primitive int -/
def k7 : Class := { plain "int" none with kind := .primitive 'I', accessFlags := 0x411 }
/-- [I -/
def k8 : Class := { plain "[I" (some 0) with kind := .array 7 .int, interfaces := #[3, 4], accessFlags := 1041 }

def heap : Heap := #[]
def classes : Array Class := #[k0, k1, k2, k3, k4, k5, k6, k7, k8]
def interned : List (Array UInt16 × Addr) := []
def slotsUsed : Nat := 0
def theMethod : MethodId := ⟨1, 1⟩
def args0 : Array Value := #[.int 5, .int 6, .int 7, .int 8]
def aboutOver (below : List Frame) : State where
  vm := { classes := classes, interned := interned.toArray }
  heap := heap
  slotsUsed := slotsUsed
  threads := #[{ frames := .invoking theMethod args0 :: below }]
def below0 : List Frame := [.native { method := ⟨0, 0⟩, args := #[] }]
def about1 : State := aboutOver below0
def p0 : Program := .bare "" "" ""
def e0 : Env := launch0.env 0 0 0
theorem w_frames : about1.frames = Frame.invoking theMethod args0 :: below0 := rfl
set_option maxRecDepth 65536 in
theorem w_args : argsFit about1.vm theMethod args0 = true := by decide +kernel
set_option maxRecDepth 65536 in
theorem w_heap : heapFits about1 = true := by decide +kernel
set_option maxRecDepth 65536 in
theorem w_runnable : about1.curStatus? = some .runnable := by decide +kernel
set_option maxRecDepth 65536 in
theorem w_alone : about1.alone = true := by decide +kernel
set_option maxRecDepth 65536 in
theorem w_named : about1.methodNamed? x = some theMethod := by decide +kernel
set_option maxRecDepth 65536 in
theorem w_hears : about1.hears theMethod below0 = true := by decide +kernel
set_option maxRecDepth 65536 in
theorem w_ripe : about1.ripe theMethod args0 below0 = true := by decide +kernel
theorem w_running : about1.status = .running := rfl
set_option maxRecDepth 65536 in
theorem w_room : about1.hasRoom e0.platform room_1 = true :=
  launch0.hasRoom_least _ room_1 (by decide +kernel) (by decide +kernel) (by decide +kernel) (by decide +kernel) (by decide +kernel) (by decide +kernel)
theorem allAtoms_all (ts : List Jvm.Cond) (a : Array Jvm.Value) (st : Jvm.State) : (allAtoms ts).before a st = ts.all (fun c => c.before a st) := by
  induction ts with
  | nil => rfl
  | cons c t ih =>
    show (Jvm.Cond.and c (allAtoms t)).before a st = _
    rw [Jvm.Cond.before_and, ih, List.all_cons]
def words1 : List Jvm.Cond := Jvm.Cond.code x code maxLocals ret :: tables_1
/-- a 'code' word, met by the world's own term for the bytes: nothing is compared byte by byte -/
theorem code_word {y : MethodName} {bytes : ByteArray} {mx : Nat} {rt : Option FieldType} {a : Array Value} {s : State} {m : MethodId} {meth : Method} {c : Code} (h1 : s.methodNamed? y = some m) (h2 : s.vm.method? m = some meth) (h3 : meth.code = some c) (h4 : c.code = bytes)
    (h5 : (c.maxLocals == mx && c.exceptionTable.isEmpty && decide (c.maxStack ≤ mostOperands) && decide (meth.sig.returnType = rt) && !meth.locks && decide (parseMethodDescriptor y.desc = some meth.sig)) = true) : (Jvm.Cond.code y bytes mx rt).before a s = true := by
  simp only [Bool.and_eq_true, beq_iff_eq, Bool.not_eq_true', decide_eq_true_eq] at h5
  obtain ⟨⟨⟨⟨⟨g1, g2⟩, g3⟩, g4⟩, g5⟩, g6⟩ := h5
  simp [Cond.before, Cond.holds, Cond.value, h1, h2, h3, h4, g1, g2, g3, g4, g5, g6]
def isCode : Jvm.Cond → Bool
  | .code _ _ _ _ => true
  | _ => false
theorem all_split {L : List Jvm.Cond} {P : Jvm.Cond → Bool} (h1 : L.all (fun c => isCode c || P c) = true) (h2 : ∀ c ∈ L.filter isCode, P c = true) : L.all P = true := by
  refine List.all_eq_true.mpr fun c hc => ?_
  have h := List.all_eq_true.mp h1 c hc
  rcases Bool.eq_false_or_eq_true (isCode c) with hi | hi
  · exact h2 c (List.mem_filter.mpr ⟨hc, hi⟩)
  · simpa [hi] using h
set_option maxRecDepth 65536 in
theorem w_c0 : (Jvm.Cond.code x code maxLocals ret).before args0 about1 = true := code_word (m := ⟨1, 1⟩) (meth := k1m1) (c := k1c1) (by decide +kernel) rfl rfl rfl (by decide +kernel)
set_option maxRecDepth 65536 in
theorem w_c1 : (Jvm.Cond.code ({ cls := "com/example/foldkey/foldkey/encoding/Der", name := "implicit", desc := "(I[B)[B" } : Jvm.MethodName) prog_5_method_5_code (3 : Nat) (Option.some (Jvm.ClassFile.FieldType.array Jvm.ClassFile.FieldType.byte))).before args0 about1 = true := code_word (m := ⟨2, 1⟩) (meth := k2m1) (c := k2c1) (by decide +kernel) rfl rfl rfl (by decide +kernel)
def codes1 : List Jvm.Cond := [Jvm.Cond.code x code maxLocals ret, Jvm.Cond.code ({ cls := "com/example/foldkey/foldkey/encoding/Der", name := "implicit", desc := "(I[B)[B" } : Jvm.MethodName) prog_5_method_5_code (3 : Nat) (Option.some (Jvm.ClassFile.FieldType.array Jvm.ClassFile.FieldType.byte))]
set_option maxRecDepth 65536 in
theorem codes_eq : words1.filter isCode = codes1 := rfl
theorem w_codes : ∀ c ∈ words1.filter isCode, c.before args0 about1 = true := by
  rw [codes_eq]
  intro c hc
  simp only [codes1, List.mem_cons, List.not_mem_nil, or_false] at hc
  rcases hc with rfl | rfl
  · exact w_c0
  · exact w_c1
set_option maxRecDepth 65536 in
theorem w_t1 : words1.all (fun c => isCode c || c.before args0 about1) = true := by decide +kernel
theorem w_tables : (allAtoms (Jvm.Cond.code x code maxLocals ret :: tables_1)).before args0 about1 = true := by
  rw [allAtoms_all]
  show words1.all (fun c => c.before args0 about1) = true
  refine all_split ?_ w_codes
  rw [w_t1]
set_option maxRecDepth 65536 in
theorem w_case : (Jvm.Cond.and given_1 narrow_1).before args0 about1 = true := by decide +kernel
theorem w_applies : (headSpec (Jvm.Cond.code x code maxLocals ret :: tables_1) room_1).applies x e0.platform about1 = true :=
  (Spec.applies_iff w_frames).mpr ⟨w_running, w_runnable, w_alone, w_named, w_hears, w_ripe, w_room, w_tables⟩
theorem atStart : AtStart classFile x code maxLocals ret World_1 tables_1 room_1 Calls_1 rest_1 Pre_1 launch0 p0 e0 about1 theMethod args0 below0 :=
  ⟨lists_1, trivial, launch0.admits_env _ _ _, launch0.least_env, fairChoices_fair.cas, fairChoices_fair.clock, w_frames, w_args, w_heap, w_applies, trivial, trivial, w_case⟩
end start1
theorem witness_1 : WitnessClaimed_1 := ⟨start1.p0, start1.e0, start1.about1, start1.theMethod, start1.args0, start1.below0, start1.atStart⟩
end Jvm.Pilot.@@N@@
