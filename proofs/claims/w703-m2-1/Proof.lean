import JvmDerived
import JvmDerived.Pilot.@@N@@Statement
import JvmDerived.Pilot.@@N@@Code
set_option linter.unusedVariables false
set_option linter.unusedSimpArgs false
namespace Jvm.Pilot.@@N@@
open Jvm Jvm.ClassFile Sem Op Lib Jvm.Free Jvm.Stand Jvm.LawKit Jvm.RoadKit Bundle Jvm.Pilot.@@N@@.Jvm.D
section Own
variable {p : Program} {l : Launch} {e : Env} {R : Room} {s : State} {m : MethodId} {args : Array Value} {below : List Frame} {meth : Method} {c : Code} {T T' : State} {locs : List Loc} {cells slots : Nat} {G : Outcome → State → Prop} {g g' : JFrame} {Z : State} {h h' h0 : Heap} {a b : Addr} {n0 : Nat} {Q : Option Value → Heap → List Loc → Prop} {CC SS : Nat}
/-- the run from T, with the frame g on top, ends as G wants it -/
def Win (p : Program) (e : Env) (below : List Frame) (G : Outcome → State → Prop) (T : State) (g : JFrame) : Prop :=
  ∃ s₂ o, Steps p.tables e below (T.setTop g) s₂ ∧ s₂.status = .running ∧ Ended s₂ below o ∧ G o s₂
theorem Win.st (W : Win p e below G T' g') (st : ∀ t, Steps p.tables e below (T'.setTop g') t → Steps p.tables e below (T.setTop g) t) : Win p e below G T g := by
  obtain ⟨s2, o, h1, h2⟩ := W
  exact ⟨s2, o, st _ h1, h2⟩
theorem Win.tr (W : Win p e below G T' g') (st : Steps p.tables e below (T.setTop g) (T'.setTop g')) : Win p e below G T g := by
  obtain ⟨s2, o, h1, h2⟩ := W
  exact ⟨s2, o, st.trans h1, h2⟩
/-- how a body ends: it returned v, Q of the value and the heap, the frame -/
def Ends (s : State) (Q : Option Value → Heap → List Loc → Prop) (CC SS : Nat) (o : Outcome) (U : State) : Prop := ∃ v L, o = .returned v ∧ Q v U.heap L ∧ FrameEnd s o U L CC SS
theorem Win.ret (X : Stand p l e R s m args below meth c T locs cells slots) (hx : p.tables.exec = Jvm.exec) (hlk : meth.locks = false) (eT : T.heap = h) {pc : Nat} {Ls : Array Slot} {w : Value} {t : FieldType} {i : Instr} {rest : List Value} (hret : meth.sig.returnType = some t) (hn : narrow t w = w)
    (hi : (i = .ireturn ∧ (t = .int ∨ t = .boolean ∨ t = .byte ∨ t = .char ∨ t = .short) ∧ ∃ z, w = .int z) ∨ (i = .lreturn ∧ t = .long ∧ ∃ z, w = .long z) ∨ (i = .dreturn ∧ t = .double ∧ ∃ z, w = .double z) ∨ (i = .freturn ∧ t = .float ∧ ∃ z, w = .float z) ∨ (i = .areturn ∧ t.isReference = true ∧ w.isRef = true))
    (hd : decode c.code pc = .ok (i, 1)) (hc : cells ≤ CC) (hs : slots ≤ SS) (hQ : Q (some w) h locs) : Win p e below (Ends s Q CC SS) T (mkF m pc Ls (w :: rest)) := by
  obtain ⟨fs, hr, hrun, hended, hW, hsame⟩ := X.leave (v := some w) (fun h => by rw [hret] at h; cases h) hlk
  subst eT
  exact ⟨_, _, retOut X hx hret hn hi hd hr, hrun, hended, _, _, rfl, hQ, ⟨_, rfl⟩, hW, hsame.mono hc hs⟩
theorem Win.retN (X : Stand p l e R s m args below meth c T locs cells slots) (hx : p.tables.exec = Jvm.exec) (hlk : meth.locks = false) (eT : T.heap = h) {pc : Nat} {Ls : Array Slot} {z z' : Int32} {t : FieldType} {rest : List Value} (hret : meth.sig.returnType = some t) (ht : t = .boolean ∨ t = .byte ∨ t = .char ∨ t = .short)
    (hd : decode c.code pc = .ok (.ireturn, 1)) (hc : cells ≤ CC) (hs : slots ≤ SS) (hz : nar t z = z') (hQ : Q (some (.int z')) h locs) : Win p e below (Ends s Q CC SS) T (mkF m pc Ls (.int z :: rest)) := by
  subst hz
  obtain ⟨fs, hr, hrun, hended, hW, hsame⟩ := X.leave (v := some (.int (nar t z))) (fun h => by rw [hret] at h; cases h) hlk
  subst eT
  exact ⟨_, _, Jvm.RoadKit.retN X hx hret ht hd hr, hrun, hended, _, _, rfl, hQ, ⟨_, rfl⟩, hW, hsame.mono hc hs⟩
theorem Win.retV (X : Stand p l e R s m args below meth c T locs cells slots) (hx : p.tables.exec = Jvm.exec) (hlk : meth.locks = false) (eT : T.heap = h) {pc : Nat} {Ls : Array Slot} (hret : meth.sig.returnType = none)
    (hd : decode c.code pc = .ok (.return_, 1)) (hc : cells ≤ CC) (hs : slots ≤ SS) (hQ : Q none h locs) : Win p e below (Ends s Q CC SS) T (mkF m pc Ls []) := by
  obtain ⟨fs, hr, hrun, hended, hW, hsame⟩ := X.leave (v := none) (fun _ => rfl) hlk
  subst eT
  exact ⟨_, _, X.returnOut hx hret hd hr, hrun, hended, _, _, rfl, hQ, ⟨_, rfl⟩, hW, hsame.mono hc hs⟩
theorem own_hide {k : Nat} {sl : Nat} (X : Stand p l e R s m args below meth c T (locs ++ [⟨a, sl⟩]) cells slots) (N : Fr k locs) (q : k ≤ a) : ∃ L, Stand p l e R s m args below meth c T L cells slots ∧ Fr k L := ⟨_, X, Fr.snoc X N q⟩
theorem own_kext (E : Ext h h') : Keep h h' [] := (Keep.refl h []).ext E
theorem own_new {x : Addr} (g : b = h.size) (q : x < h.size) : x ≠ b := Nat.ne_of_lt (g ▸ q)
theorem own_newle (Z0 : n0 ≤ h.size) (g : b = h.size) : n0 ≤ b := g ▸ Z0
theorem own_len {k : ClassId} {ty : FieldType} {z : Int32} {vs : List Value} {dv : Value} (V : Arv Z h a k ty z vs dv) : ¬ z < 0 := by obtain ⟨_, _, _, _, q, _⟩ := V; exact q
theorem own_alen {k : ClassId} {ty : FieldType} {z : Int32} {vs : List Value} {dv : Value} (X : Stand p l e R s m args below meth c T locs cells slots) (hx : p.tables.exec = Jvm.exec) (hZ : Z.Warmed39 s.vm) (eT : T.heap = h) (V : Arv Z h a k ty z vs dv) {rest : List Value} (hg : g.method = m) (hs : g.stack = .ref a :: rest) (hd : decode c.code g.pc = .ok (.arraylength, 1)) :
    ∀ target, Steps p.tables e below (T.setTop { g with pc := g.pc + 1, stack := .int z :: rest }) target → Steps p.tables e below (T.setTop g) target := by
  obtain ⟨cl, A, -, S, q, -, -⟩ := V
  intro t k
  refine X.arraylength hx (by rw [eT]; exact A.1) (State.isArrayOf_alike hZ.alike A.2.1) hg hs hd _ ?_
  rw [len_of S q]; exact k
theorem own_iald {k : ClassId} {z : Int32} {vs : List Value} {dv : Value} (X : Stand p l e R s m args below meth c T locs cells slots) (hx : p.tables.exec = Jvm.exec) (hZ : Z.Warmed39 s.vm) (eT : T.heap = h) (V : Arv Z h a k .int z vs dv) {j : Int32} {v : Value} (h1 : ¬ j < 0) (h2 : j < z) (hv : vs.getD j.toNatClampNeg dv = v) {rest : List Value} (hg : g.method = m) (hs : g.stack = .int j :: .ref a :: rest) (hd : decode c.code g.pc = .ok (.iaload, 1)) :
    ∀ target, Steps p.tables e below (T.setTop { g with pc := g.pc + 1, stack := v :: rest }) target → Steps p.tables e below (T.setTop g) target := by
  obtain ⟨cl, A, -, S, q, H, -⟩ := V
  have hin := inb_of S ⟨h1, h2⟩
  exact X.iaload hx (by rw [eT]; exact A.1) (State.isArrayOf_alike hZ.alike A.2.1) A.2.2 hin (H.at hin hv) hg hs hd
theorem own_bald {k : ClassId} {z : Int32} {vs : List Value} {dv : Value} (X : Stand p l e R s m args below meth c T locs cells slots) (hx : p.tables.exec = Jvm.exec) (hZ : Z.Warmed39 s.vm) (eT : T.heap = h) (V : Arv Z h a k .byte z vs dv) {j : Int32} {v : Value} (h1 : ¬ j < 0) (h2 : j < z) (hv : vs.getD j.toNatClampNeg dv = v) {rest : List Value} (hg : g.method = m) (hs : g.stack = .int j :: .ref a :: rest) (hd : decode c.code g.pc = .ok (.baload, 1)) :
    ∀ target, Steps p.tables e below (T.setTop { g with pc := g.pc + 1, stack := v :: rest }) target → Steps p.tables e below (T.setTop g) target := by
  obtain ⟨cl, A, -, S, q, H, -⟩ := V
  have hin := inb_of S ⟨h1, h2⟩
  exact X.baloadBytes hx (by rw [eT]; exact A.1) (State.isArrayOf_alike hZ.alike A.2.1) A.2.2 hin (H.at hin hv) hg hs hd
theorem own_cald {k : ClassId} {z : Int32} {vs : List Value} {dv : Value} (X : Stand p l e R s m args below meth c T locs cells slots) (hx : p.tables.exec = Jvm.exec) (hZ : Z.Warmed39 s.vm) (eT : T.heap = h) (V : Arv Z h a k .char z vs dv) {j : Int32} {v : Value} (h1 : ¬ j < 0) (h2 : j < z) (hv : vs.getD j.toNatClampNeg dv = v) {rest : List Value} (hg : g.method = m) (hs : g.stack = .int j :: .ref a :: rest) (hd : decode c.code g.pc = .ok (.caload, 1)) :
    ∀ target, Steps p.tables e below (T.setTop { g with pc := g.pc + 1, stack := v :: rest }) target → Steps p.tables e below (T.setTop g) target := by
  obtain ⟨cl, A, -, S, q, H, -⟩ := V
  have hin := inb_of S ⟨h1, h2⟩
  exact X.caload hx (by rw [eT]; exact A.1) (State.isArrayOf_alike hZ.alike A.2.1) A.2.2 hin (H.at hin hv) hg hs hd
theorem own_cast {k : ClassId} {z : Int32} {vs : List Value} {dv : Value} (X : Stand p l e R s m args below meth c T locs cells slots) (hx : p.tables.exec = Jvm.exec) (hZ : Z.Warmed39 s.vm) (eT : T.heap = h) (N : Fr n0 locs) (ge : n0 ≤ a) (V : Arv Z h a k .char z vs dv) {j x : Int32} (h1 : ¬ j < 0) (h2 : j < z) {i : Nat} (hj : j.toNatClampNeg = i) (hi : i < vs.length) {rest : List Value} (hg : g.method = m) (hs : g.stack = .int x :: .int j :: .ref a :: rest) (hd : decode c.code g.pc = .ok (.castore, 1)) :
    ∃ T' h' L, Stand p l e R s m args below meth c T' L cells slots ∧ Fr n0 L ∧ T'.heap = h' ∧ Keep h h' [a] ∧ Arv Z h' a k .char z (vs.set i (.int (x.toUInt32.toUInt16.toUInt32.toInt32))) dv ∧ ∀ target, Steps p.tables e below (T'.setTop { g with pc := g.pc + 1, stack := rest }) target → Steps p.tables e below (T.setTop g) target := by
  obtain ⟨cl, A, q1, S, q, H, Gf⟩ := V
  have hin := inb_of S ⟨h1, h2⟩
  obtain ⟨T', h', X', e', W, st⟩ := stC X hx hZ eT A hin hg hs hd
  exact ⟨T', h', _, X', Fr.snoc X' N ge, e', Keep.of_wr W, Arv.set A q1 S q H Gf (fits_nar_char x) W i hj hi, st⟩
theorem own_iast {k : ClassId} {z : Int32} {vs : List Value} {dv : Value} (X : Stand p l e R s m args below meth c T locs cells slots) (hx : p.tables.exec = Jvm.exec) (hZ : Z.Warmed39 s.vm) (eT : T.heap = h) (N : Fr n0 locs) (ge : n0 ≤ a) (V : Arv Z h a k .int z vs dv) {j x : Int32} (h1 : ¬ j < 0) (h2 : j < z) {i : Nat} (hj : j.toNatClampNeg = i) (hi : i < vs.length) {rest : List Value} (hg : g.method = m) (hs : g.stack = .int x :: .int j :: .ref a :: rest) (hd : decode c.code g.pc = .ok (.iastore, 1)) :
    ∃ T' h' L, Stand p l e R s m args below meth c T' L cells slots ∧ Fr n0 L ∧ T'.heap = h' ∧ Keep h h' [a] ∧ Arv Z h' a k .int z (vs.set i (.int x)) dv ∧ ∀ target, Steps p.tables e below (T'.setTop { g with pc := g.pc + 1, stack := rest }) target → Steps p.tables e below (T.setTop g) target := by
  obtain ⟨cl, A, q1, S, q, H, Gf⟩ := V
  have hin := inb_of S ⟨h1, h2⟩
  obtain ⟨T', h', X', e', W, st⟩ := stI X hx hZ eT A hin hg hs hd
  exact ⟨T', h', _, X', Fr.snoc X' N ge, e', Keep.of_wr W, Arv.set A q1 S q H Gf rfl W i hj hi, st⟩
theorem own_bast {k : ClassId} {z : Int32} {vs : List Value} {dv : Value} (X : Stand p l e R s m args below meth c T locs cells slots) (hx : p.tables.exec = Jvm.exec) (hZ : Z.Warmed39 s.vm) (eT : T.heap = h) (N : Fr n0 locs) (ge : n0 ≤ a) (V : Arv Z h a k .byte z vs dv) {j x : Int32} (h1 : ¬ j < 0) (h2 : j < z) {i : Nat} (hj : j.toNatClampNeg = i) (hi : i < vs.length) {rest : List Value} (hg : g.method = m) (hs : g.stack = .int x :: .int j :: .ref a :: rest) (hd : decode c.code g.pc = .ok (.bastore, 1)) :
    ∃ T' h' L, Stand p l e R s m args below meth c T' L cells slots ∧ Fr n0 L ∧ T'.heap = h' ∧ Keep h h' [a] ∧ Arv Z h' a k .byte z (vs.set i (.int x.toInt8.toInt32)) dv ∧ ∀ target, Steps p.tables e below (T'.setTop { g with pc := g.pc + 1, stack := rest }) target → Steps p.tables e below (T.setTop g) target := by
  obtain ⟨cl, A, q1, S, q, H, Gf⟩ := V
  have hin := inb_of S ⟨h1, h2⟩
  obtain ⟨T', h', X', e', W, st⟩ := stB X hx hZ eT A hin hg hs hd
  exact ⟨T', h', _, X', Fr.snoc X' N ge, e', Keep.of_wr W, Arv.set A q1 S q H Gf (fits_nar_byte x) W i hj hi, st⟩
/-- how a body ends that may have interned a String -/
def EndsW (s : State) (Q : Option Value → Heap → List Loc → Prop) (CC SS : Nat) (o : Outcome) (U : State) : Prop := ∃ v L, o = .returned v ∧ Q v U.heap L ∧ ReturnedEndW s o U L CC SS
theorem Win.retNW {vm₁ : Vm} {k1 : Nat} (X : Stand p l e R (s.setVm vm₁) m args below meth c T locs cells slots) (hS : s.Since vm₁ k1) (hk : k1 ≤ h.size) (hx : p.tables.exec = Jvm.exec) (hlk : meth.locks = false) (eT : T.heap = h) {pc : Nat} {Ls : Array Slot} {z z' : Int32} {t : FieldType} {rest : List Value} (hret : meth.sig.returnType = some t) (ht : t = .boolean ∨ t = .byte ∨ t = .char ∨ t = .short)
    (hd : decode c.code pc = .ok (.ireturn, 1)) (hc : cells ≤ CC) (hs : slots ≤ SS) (hz : nar t z = z') (hQ : Q (some (.int z')) h locs) : Win p e below (EndsW s Q CC SS) T (mkF m pc Ls (.int z :: rest)) := by
  subst hz
  subst eT
  obtain ⟨fs, hr, hrun, hended, h1, h2, h3, h4⟩ := X.leaveW hS hk (v := some (.int (nar t z))) (fun h => by rw [hret] at h; cases h) hlk
  exact ⟨_, _, Jvm.RoadKit.retN X hx hret ht hd hr, hrun, hended, _, _, rfl, hQ, h1, h2, h3, h4.mono hc hs⟩
theorem Win.retVW {vm₁ : Vm} {k1 : Nat} (X : Stand p l e R (s.setVm vm₁) m args below meth c T locs cells slots) (hS : s.Since vm₁ k1) (hk : k1 ≤ h.size) (hx : p.tables.exec = Jvm.exec) (hlk : meth.locks = false) (eT : T.heap = h) {pc : Nat} {Ls : Array Slot} (hret : meth.sig.returnType = none)
    (hd : decode c.code pc = .ok (.return_, 1)) (hc : cells ≤ CC) (hs : slots ≤ SS) (hQ : Q none h locs) : Win p e below (EndsW s Q CC SS) T (mkF m pc Ls []) := by
  subst eT
  obtain ⟨fs, hr, hrun, hended, h1, h2, h3, h4⟩ := X.leaveW hS hk (v := none) (fun _ => rfl) hlk
  exact ⟨_, _, X.returnOut hx hret hd hr, hrun, hended, _, _, rfl, hQ, h1, h2, h3, h4.mono hc hs⟩
theorem Win.retRW {vm₁ : Vm} {k1 : Nat} (X : Stand p l e R (s.setVm vm₁) m args below meth c T locs cells slots) (hS : s.Since vm₁ k1) (hk : k1 ≤ h.size) (hx : p.tables.exec = Jvm.exec) (hlk : meth.locks = false) (eT : T.heap = h) {pc : Nat} {Ls : Array Slot} {w : Value} {t : FieldType} {rest : List Value} (hret : meth.sig.returnType = some t) (ht : t.isReference = true) (hw : w.isRef = true) (hn : narrow t w = w)
    (hd : decode c.code pc = .ok (.areturn, 1)) (hc : cells ≤ CC) (hs : slots ≤ SS) (hQ : Q (some w) h locs) : Win p e below (EndsW s Q CC SS) T (mkF m pc Ls (w :: rest)) := by
  subst eT
  obtain ⟨fs, hr, hrun, hended, h1, h2, h3, h4⟩ := X.leaveW hS hk (v := some w) (fun h => by rw [hret] at h; cases h) hlk
  exact ⟨_, _, retOut X hx hret hn (Or.inr (Or.inr (Or.inr (Or.inr ⟨rfl, ht, hw⟩)))) hd hr, hrun, hended, _, _, rfl, hQ, h1, h2, h3, h4.mono hc hs⟩
/-- RoadKit's backOfSH for a callee that asks the invariant and doesn't give it back -/
theorem own_backOfSP {a0 : Array Value} {EL : List (String × Nat)} {vm0 : Vm} {y : MethodName} {bytes : ByteArray} {maxL : Nat} {ret : Option FieldType} {rm : Room} {len W : Nat} {as' : Array Value} {Q : Option Value → Heap → List Loc → Prop}
    (hM : MetFree l y (head1 [Jvm.Cond.code y bytes maxL ret] rm) (fun a U => a = as' ∧ Z.Warmed39 U.vm ∧ U.heap = h ∧ CHv Z EL U.vm h) (fun _ _ _ _ _ => True) (fun _ U o U' => ∃ v L, o = .returned v ∧ Q v U'.heap L ∧ ReturnedEndW U o U' L rm.cells rm.slots))
    (hZ : Z.Warmed39 vm0) (wc : (Jvm.Cond.code y bytes maxL ret).before a0 Z = true) (wz : (Jvm.Cond.initialized y.cls).before a0 Z = true) (hf : rm.frames + 1 ≤ R.frames) (hl : W + (maxL + 11) + rm.locals ≤ R.locals) (hEL : EW Z a0 EL) (H : CHv Z EL vm0 h) :
    BackS l R p e below (s.setVm vm0) args y len W (fun A a => a = as' ∧ A.U.heap = h ∧ A.cells + rm.cells ≤ R.cells ∧ A.slots + rm.slots ≤ R.slots)
      (fun A _ v B => ∃ L, Q v B.U.heap L ∧ B.locs = A.locs ++ L ∧ B.cells = A.cells + rm.cells ∧ B.slots = A.slots + rm.slots) :=
  BackS.of_freeW (bytes := bytes) (maxL := maxL) (ret := ret) (E := fun _ _ o t L k n => k = rm.cells ∧ n = rm.slots ∧ ∃ v, o = .returned v ∧ Q v t.heap L) hM hf hl
    (fun m meth c A a Y hp => have hU : Z.Warmed39 A.U.vm := wtrans (s := s.setVm vm0) hZ Y.warmed
      ⟨by show (Jvm.Cond.and _ .tt).before a A.U = true; rw [Cond.before_and, mv hU wc]; rfl, mv hU wc, mv hU wz, hp.2.2.1, hp.2.2.2⟩)
    (fun m meth c A a g mk Y hp => ⟨hp.1, wtrans (s := s.setVm vm0) hZ Y.warmed, hp.2.1, (CHv.at Y hZ hEL H).1⟩) (fun _ _ _ _ _ _ _ _ _ => trivial)
    (fun _ _ _ _ ⟨v, L, h1, h2, h3⟩ => ⟨L, _, _, h3, rfl, rfl, v, h1, h2⟩)
    (fun m meth c A a g mk v t L k n Y hp _ _ ⟨e1, e2, v', e3, e4⟩ => by cases e3; subst e1 e2; exact ⟨L, e4, rfl, rfl, rfl⟩)
theorem own_sta_keep {C n d : String} {v : Value} (F : Sta Z h C n d v) (K : Keep h h' []) : Sta Z h' C n d v := by
  obtain ⟨cf, i, k, f, st, cell, h1, h2, h3, h4, h5, r⟩ := F
  exact ⟨cf, i, k, f, st, cell, h1, h2, h3, h4, K.2.1 _ _ h5 nin0, r⟩
theorem own_nar_ref {u : Value} {C : String} (hu : u.isRef = true) : narrow (.object C) u = u := by rcases ref_cases hu with rfl | ⟨z, rfl⟩ <;> rfl
theorem own_fit_ref {u : Value} {C : String} (hu : u.isRef = true) : fits (.object C) u = true := by rcases ref_cases hu with rfl | ⟨z, rfl⟩ <;> rfl
theorem own_no {a0 : Array Value} {C K O : String} {n : Nat} (w : (Jvm.Cond.superclass C O).before a0 Z = true) (wo : (Jvm.Cond.noSuperclass O).before a0 Z = true) (wk : (Jvm.Cond.instantiable K n).before a0 Z = true) (h1 : C ≠ K) (h2 : O ≠ K) : ∃ c t, Z.vm.findClass C = some c ∧ Z.vm.findClass K = some t ∧ Z.vm.assignable c t = false := by
  obtain ⟨o, ko, o1, o2, o3, -, -⟩ := Cond.noSuperclass_spec wo
  obtain ⟨t, kt, t1, t2, t3, t4, -⟩ := Cond.instantiable_spec wk
  obtain ⟨c, c0⟩ := found_sup w
  obtain ⟨p, k, kp, p1, p2, p3, p4, p5, -, p7⟩ := Cond.superclass_spec c0 w
  cases o1.symm.trans p1
  have ne1 := ids_ne c0 t1 h1
  have ne2 := ids_ne o1 t1 h2
  simp only [Bool.or_eq_false_iff] at t4
  have n3 : ∀ fuel, Z.vm.isSubclassAux fuel c t = false := fun fuel => by
    match fuel with
    | 0 => rfl
    | 1 => simp [Vm.isSubclassAux, ne1, p2, p4]
    | f + 2 => simp [Vm.isSubclassAux, ne1, ne2, p2, p4, o2, o3]
  refine ⟨c, t, c0, t1, ?_⟩
  show Z.vm.assignableAux (255 + 1) c t = false
  simp [Vm.assignableAux, ne1, p2, t2, p5, t3, t4.1, Vm.isSubclass, n3]
theorem own_selp {y : MethodName} {n : Nat} (hi : (Jvm.Cond.instantiable y.cls n).before args s = true) (hp : s.PrivateAt y) (hm : (Jvm.Cond.instanceMethod y).before args s = true) (hy : y.cls ≠ "java/lang/invoke/MethodHandle" ∧ y.cls ≠ "java/lang/invoke/VarHandle") : (Jvm.Cond.selects y.cls y y).before args s = true := by
  obtain ⟨c, k, h1, h2, h3, h4, -⟩ := Cond.instantiable_spec hi
  exact selects_self_of_private h1 h2 (by simp only [Bool.or_eq_false_iff] at h4; exact h4.1) hp hm hy
end Own

theorem own_b8 (y : Int32) : (y.toInt8.toInt32).toInt8.toInt32 = y.toInt8.toInt32 := by simp
theorem own_lt {x y : Int32} (h : x.toInt < y.toInt) : x < y := Int32.lt_iff_toInt_lt.mpr h
theorem own_nlt {x y : Int32} (h : y.toInt ≤ x.toInt) : ¬ x < y := fun q => by have := Int32.lt_iff_toInt_lt.mp q; omega
theorem own_of_nlt {x y : Int32} (h : ¬ x < y) : y.toInt ≤ x.toInt := by rw [Int32.lt_iff_toInt_lt] at h; omega
theorem own_i0 : (0 : Int32).toInt = 0 := by decide
theorem own_i255 : (255 : Int32).toInt = 255 := by decide
theorem own_i256 : (256 : Int32).toInt = 256 := by decide
def own_max (x y : Int32) : Int32 := if x < y then y else x
/-- a value of a byte -/
def own_B (x : Int32) : Prop := 0 ≤ x.toInt ∧ x.toInt ≤ 255
theorem own_maskB (x : Int32) : own_B (x &&& 255) := by
  have q := c_mask x 255 8 (by decide) (by decide)
  unfold own_B; omega
theorem own_byte {x : Int32} (h : own_B x) : (x.toInt8.toInt32 &&& (255 : Int32)) = x := by
  have q := c_mask x.toInt8.toInt32 255 8 (by decide) (by decide)
  have r := c_i2b x
  refine Int32.toInt_inj.mp ?_
  obtain ⟨a, b⟩ := h
  omega
theorem own_char {x : Int32} (h : own_B x) : x.toUInt32.toUInt16.toUInt32.toInt32 = x := by
  have r := c_i2c x
  refine Int32.toInt_inj.mp ?_
  obtain ⟨a, b⟩ := h
  omega
theorem own_five (x : Int32) : (x &&& 2147483647) % 5 = 0 ∨ (x &&& 2147483647) % 5 = 1 ∨ (x &&& 2147483647) % 5 = 2 ∨ (x &&& 2147483647) % 5 = 3 ∨ (x &&& 2147483647) % 5 = 4 := by
  have q := c_mask x 2147483647 31 (by decide) (by decide)
  have r := (c_irem (x &&& 2147483647) 5 5 (by decide)).1 (by omega)
  have t : ((x &&& 2147483647) % 5).toInt = 0 ∨ ((x &&& 2147483647) % 5).toInt = 1 ∨ ((x &&& 2147483647) % 5).toInt = 2 ∨ ((x &&& 2147483647) % 5).toInt = 3 ∨ ((x &&& 2147483647) % 5).toInt = 4 := by omega
  rcases t with t | t | t | t | t
  · exact Or.inl (Int32.toInt_inj.mp (t.trans (by decide)))
  · exact Or.inr (Or.inl (Int32.toInt_inj.mp (t.trans (by decide))))
  · exact Or.inr (Or.inr (Or.inl (Int32.toInt_inj.mp (t.trans (by decide)))))
  · exact Or.inr (Or.inr (Or.inr (Or.inl (Int32.toInt_inj.mp (t.trans (by decide))))))
  · exact Or.inr (Or.inr (Or.inr (Or.inr (Int32.toInt_inj.mp (t.trans (by decide))))))

def own_min (x y : Int32) : Int32 := if y < x then y else x
theorem own_b124 {x : Int32} (hx : own_B x) (h : x.toInt8.toInt32 = (124 : Int32)) : x = (124 : Int32) := by
  rw [← own_byte hx, h]; decide
def own_pickc (raw bar : Int32) : Int32 := if bar = 0 then raw &&& (255 : Int32) else (124 : Int32)
theorem own_pickcB (raw bar : Int32) : own_B (own_pickc raw bar) := by
  unfold own_pickc
  split
  · exact own_maskB _
  · exact ⟨by decide, by decide⟩
/-- the String constants that the walk reads -/
def own_EL : List (String × Nat) := [("java/lang/String", 7)]


theorem own_shr0 (z : Int32) : z >>> ((0 : Int32) &&& 31) = z := by
  refine Int32.toInt_inj.mp ?_
  rw [c_ishr z 0 0 (by decide)]
  simp
theorem own_narc (b : Int32) : nar .char ((b &&& (255 : Int32)).toUInt32.toUInt16.toUInt32.toInt32) = b &&& 255 := by
  show ((b &&& 255).toUInt32.toUInt16.toUInt32.toInt32).toUInt32.toUInt16.toUInt32.toInt32 = _
  rw [i2c_mask, i2c_mask]
theorem own_narc1 (b : Int32) : nar .char (b &&& (255 : Int32)) = b &&& 255 := i2c_mask b

theorem d_jdk_29_method_65_0 : decode jdk_29_method_65_code 0 = .ok (.iload_n 0, 1) := by decide +kernel
theorem d_jdk_29_method_65_1 : decode jdk_29_method_65_code 1 = .ok (.iload_n 1, 1) := by decide +kernel
theorem d_jdk_29_method_65_2 : decode jdk_29_method_65_code 2 = .ok (.if_icmp .lt 7, 3) := by decide +kernel
theorem d_jdk_29_method_65_9 : decode jdk_29_method_65_code 9 = .ok (.iload_n 1, 1) := by decide +kernel
theorem d_jdk_29_method_65_10 : decode jdk_29_method_65_code 10 = .ok (.ireturn, 1) := by decide +kernel
theorem d_jdk_29_method_65_5 : decode jdk_29_method_65_code 5 = .ok (.iload_n 0, 1) := by decide +kernel
theorem d_jdk_29_method_65_6 : decode jdk_29_method_65_code 6 = .ok (.goto 4, 3) := by decide +kernel
theorem ef_max (mt : MethodId) (x : Int32) (y : Int32) : entryFrame mt #[(.int x), (.int y)] 2 = mkF mt 0 #[.val (.int x), .val (.int y)] [] := by first | (simp [entryFrame, mkF, argsToLocals, Value.category]; done) | rfl
def Q_max (Z : State) (x : Int32) (y : Int32) (h0 : Heap) (n0 : Nat) (v : Option Value) (h : Heap) (L : List Loc) : Prop := v = some (.int (own_max x y)) ∧ Fr n0 L ∧ h = h0
set_option maxRecDepth 65536 in
set_option maxHeartbeats 40000000 in
theorem rm_max (l : Launch) (Z : State) (a0 : Array Value) (hw : ∀ d ∈ tables_1, d.before a0 Z = true) (ws : List Jvm.Cond) (x : Int32) (y : Int32) (h0 : Heap) (n0 : Nat) (Z0 : n0 ≤ h0.size) :
    MetFree l (⟨"java/lang/Math", "max", "(II)I"⟩ : MethodName) (head1 (Jvm.Cond.code (⟨"java/lang/Math", "max", "(II)I"⟩ : MethodName) jdk_29_method_65_code 2 (some .int) :: ws) ({ frames := 0, cells := 0, slots := 0, locals := 0 } : Room)) (fun aa UU => aa = #[(.int x), (.int y)] ∧ Z.Warmed39 UU.vm ∧ UU.heap = h0) (fun _ _ _ _ _ => True) (fun _ UU oo UU' => ∃ vv LL, oo = .returned vv ∧ Q_max Z x y h0 n0 vv UU'.heap LL ∧ FrameEnd UU oo UU' LL ({ frames := 0, cells := 0, slots := 0, locals := 0 } : Room).cells ({ frames := 0, cells := 0, slots := 0, locals := 0 } : Room).slots) := by
  refine MetFree.of_bodySF (Jvm.Free.JP.mathPlain rfl (by decide +kernel)) hisR ?_
  intro p e s mt args below meth cd s₁ Bd hml0 hP hK
  obtain ⟨hA, hZ, hh⟩ := hP
  have hx := Bd.exec
  have hby := Bd.bytes
  have hml : cd.maxLocals = 2 := hml0
  have hown : s.vm.findClass "java/lang/Math" = some mt.cls := findClass_of_methodNamed Bd.named
  have hnm := (name_of_methodNamed Bd.named Bd.method).1
  have hlk : meth.locks = false := BodyLoose.notSynchronized Bd
  have hrt := Bd.returns
  have X0 : Stand p l e ({ frames := 0, cells := 0, slots := 0, locals := 0 } : Room) s mt args below meth cd s₁ [] 0 0 := Stand.of_body Bd
  have e0 : s₁.heap = h0 := by rw [← hh, Bd.state]; rfl
  have N0 := Fr.nil n0
  show Win p e below (Ends s (Q_max Z x y h0 n0) ({ frames := 0, cells := 0, slots := 0, locals := 0 } : Room).cells ({ frames := 0, cells := 0, slots := 0, locals := 0 } : Room).slots) s₁ (entryFrame mt args 2)
  rw [hA, ef_max]
  refine Win.st ?_ (fun tq kq => XS.iloadN X0.here hx rfl (hb hby d_jdk_29_method_65_0) rfl kq)
  show Win p e below _ s₁ (mkF mt 1 #[.val (.int x), .val (.int y)] [(.int x)])
  refine Win.st ?_ (fun tq kq => XS.iloadN X0.here hx rfl (hb hby d_jdk_29_method_65_1) rfl kq)
  show Win p e below _ s₁ (mkF mt 2 #[.val (.int x), .val (.int y)] [(.int y), (.int x)])
  by_cases hc : x < y
  · refine Win.st ?_ (fun tq kq => XS.icmpYes X0.here hx rfl (pc0 := 2) (pc' := 9) rfl (hb hby d_jdk_29_method_65_2) rfl (tlt hc).1 (by decide) (by decide) kq)
    show Win p e below _ s₁ (mkF mt 9 #[.val (.int x), .val (.int y)] [])
    refine Win.st ?_ (fun tq kq => XS.iloadN X0.here hx rfl (hb hby d_jdk_29_method_65_9) rfl kq)
    show Win p e below _ s₁ (mkF mt 10 #[.val (.int x), .val (.int y)] [(.int y)])
    exact Win.ret X0 hx hlk e0 hrt rfl (Or.inl ⟨rfl, Or.inl rfl, _, rfl⟩) (hb hby d_jdk_29_method_65_10) (by decide) (by decide) ⟨by simp only [own_max, hc, if_true, if_false], N0, rfl⟩
  · refine Win.st ?_ (fun tq kq => XS.icmpNo X0.here hx rfl (hb hby d_jdk_29_method_65_2) rfl (flt hc).1 kq)
    show Win p e below _ s₁ (mkF mt 5 #[.val (.int x), .val (.int y)] [])
    refine Win.st ?_ (fun tq kq => XS.iloadN X0.here hx rfl (hb hby d_jdk_29_method_65_5) rfl kq)
    show Win p e below _ s₁ (mkF mt 6 #[.val (.int x), .val (.int y)] [(.int x)])
    refine Win.st ?_ (fun tq kq => XS.goto X0.here hx rfl (pc0 := 6) (pc' := 10) rfl (hb hby d_jdk_29_method_65_6) (by decide) (by decide) kq)
    show Win p e below _ s₁ (mkF mt 10 #[.val (.int x), .val (.int y)] [(.int x)])
    exact Win.ret X0 hx hlk e0 hrt rfl (Or.inl ⟨rfl, Or.inl rfl, _, rfl⟩) (hb hby d_jdk_29_method_65_10) (by decide) (by decide) ⟨by simp only [own_max, hc, if_true, if_false], N0, rfl⟩
theorem d_jdk_29_method_69_0 : decode jdk_29_method_69_code 0 = .ok (.iload_n 0, 1) := by decide +kernel
theorem d_jdk_29_method_69_1 : decode jdk_29_method_69_code 1 = .ok (.iload_n 1, 1) := by decide +kernel
theorem d_jdk_29_method_69_2 : decode jdk_29_method_69_code 2 = .ok (.if_icmp .gt 7, 3) := by decide +kernel
theorem d_jdk_29_method_69_9 : decode jdk_29_method_69_code 9 = .ok (.iload_n 1, 1) := by decide +kernel
theorem d_jdk_29_method_69_10 : decode jdk_29_method_69_code 10 = .ok (.ireturn, 1) := by decide +kernel
theorem d_jdk_29_method_69_5 : decode jdk_29_method_69_code 5 = .ok (.iload_n 0, 1) := by decide +kernel
theorem d_jdk_29_method_69_6 : decode jdk_29_method_69_code 6 = .ok (.goto 4, 3) := by decide +kernel
theorem ef_min (mt : MethodId) (x : Int32) (y : Int32) : entryFrame mt #[(.int x), (.int y)] 2 = mkF mt 0 #[.val (.int x), .val (.int y)] [] := by first | (simp [entryFrame, mkF, argsToLocals, Value.category]; done) | rfl
def Q_min (Z : State) (x : Int32) (y : Int32) (h0 : Heap) (n0 : Nat) (v : Option Value) (h : Heap) (L : List Loc) : Prop := v = some (.int (own_min x y)) ∧ Fr n0 L ∧ h = h0
set_option maxRecDepth 65536 in
set_option maxHeartbeats 40000000 in
theorem rm_min (l : Launch) (Z : State) (a0 : Array Value) (hw : ∀ d ∈ tables_1, d.before a0 Z = true) (ws : List Jvm.Cond) (x : Int32) (y : Int32) (h0 : Heap) (n0 : Nat) (Z0 : n0 ≤ h0.size) :
    MetFree l (⟨"java/lang/Math", "min", "(II)I"⟩ : MethodName) (head1 (Jvm.Cond.code (⟨"java/lang/Math", "min", "(II)I"⟩ : MethodName) jdk_29_method_69_code 2 (some .int) :: ws) ({ frames := 0, cells := 0, slots := 0, locals := 0 } : Room)) (fun aa UU => aa = #[(.int x), (.int y)] ∧ Z.Warmed39 UU.vm ∧ UU.heap = h0) (fun _ _ _ _ _ => True) (fun _ UU oo UU' => ∃ vv LL, oo = .returned vv ∧ Q_min Z x y h0 n0 vv UU'.heap LL ∧ FrameEnd UU oo UU' LL ({ frames := 0, cells := 0, slots := 0, locals := 0 } : Room).cells ({ frames := 0, cells := 0, slots := 0, locals := 0 } : Room).slots) := by
  refine MetFree.of_bodySF (Jvm.Free.JP.mathPlain rfl (by decide +kernel)) hisR ?_
  intro p e s mt args below meth cd s₁ Bd hml0 hP hK
  obtain ⟨hA, hZ, hh⟩ := hP
  have hx := Bd.exec
  have hby := Bd.bytes
  have hml : cd.maxLocals = 2 := hml0
  have hown : s.vm.findClass "java/lang/Math" = some mt.cls := findClass_of_methodNamed Bd.named
  have hnm := (name_of_methodNamed Bd.named Bd.method).1
  have hlk : meth.locks = false := BodyLoose.notSynchronized Bd
  have hrt := Bd.returns
  have X0 : Stand p l e ({ frames := 0, cells := 0, slots := 0, locals := 0 } : Room) s mt args below meth cd s₁ [] 0 0 := Stand.of_body Bd
  have e0 : s₁.heap = h0 := by rw [← hh, Bd.state]; rfl
  have N0 := Fr.nil n0
  show Win p e below (Ends s (Q_min Z x y h0 n0) ({ frames := 0, cells := 0, slots := 0, locals := 0 } : Room).cells ({ frames := 0, cells := 0, slots := 0, locals := 0 } : Room).slots) s₁ (entryFrame mt args 2)
  rw [hA, ef_min]
  refine Win.st ?_ (fun tq kq => XS.iloadN X0.here hx rfl (hb hby d_jdk_29_method_69_0) rfl kq)
  show Win p e below _ s₁ (mkF mt 1 #[.val (.int x), .val (.int y)] [(.int x)])
  refine Win.st ?_ (fun tq kq => XS.iloadN X0.here hx rfl (hb hby d_jdk_29_method_69_1) rfl kq)
  show Win p e below _ s₁ (mkF mt 2 #[.val (.int x), .val (.int y)] [(.int y), (.int x)])
  by_cases hc : y < x
  · refine Win.st ?_ (fun tq kq => XS.icmpYes X0.here hx rfl (pc0 := 2) (pc' := 9) rfl (hb hby d_jdk_29_method_69_2) rfl (tlt hc).2.2.1 (by decide) (by decide) kq)
    show Win p e below _ s₁ (mkF mt 9 #[.val (.int x), .val (.int y)] [])
    refine Win.st ?_ (fun tq kq => XS.iloadN X0.here hx rfl (hb hby d_jdk_29_method_69_9) rfl kq)
    show Win p e below _ s₁ (mkF mt 10 #[.val (.int x), .val (.int y)] [(.int y)])
    exact Win.ret X0 hx hlk e0 hrt rfl (Or.inl ⟨rfl, Or.inl rfl, _, rfl⟩) (hb hby d_jdk_29_method_69_10) (by decide) (by decide) ⟨by simp only [own_min, hc, if_true, if_false], N0, rfl⟩
  · refine Win.st ?_ (fun tq kq => XS.icmpNo X0.here hx rfl (hb hby d_jdk_29_method_69_2) rfl (flt hc).2.2.1 kq)
    show Win p e below _ s₁ (mkF mt 5 #[.val (.int x), .val (.int y)] [])
    refine Win.st ?_ (fun tq kq => XS.iloadN X0.here hx rfl (hb hby d_jdk_29_method_69_5) rfl kq)
    show Win p e below _ s₁ (mkF mt 6 #[.val (.int x), .val (.int y)] [(.int x)])
    refine Win.st ?_ (fun tq kq => XS.goto X0.here hx rfl (pc0 := 6) (pc' := 10) rfl (hb hby d_jdk_29_method_69_6) (by decide) (by decide) kq)
    show Win p e below _ s₁ (mkF mt 10 #[.val (.int x), .val (.int y)] [(.int x)])
    exact Win.ret X0 hx hlk e0 hrt rfl (Or.inl ⟨rfl, Or.inl rfl, _, rfl⟩) (hb hby d_jdk_29_method_69_10) (by decide) (by decide) ⟨by simp only [own_min, hc, if_true, if_false], N0, rfl⟩
theorem d_jdk_43_method_4_0 : decode jdk_43_method_4_code 0 = .ok (.iload_n 0, 1) := by decide +kernel
theorem d_jdk_43_method_4_1 : decode jdk_43_method_4_code 1 = .ok (.ifCond .lt 14, 3) := by decide +kernel
theorem d_jdk_43_method_4_4 : decode jdk_43_method_4_code 4 = .ok (.iload_n 0, 1) := by decide +kernel
theorem d_jdk_43_method_4_5 : decode jdk_43_method_4_code 5 = .ok (.sipush 255, 3) := by decide +kernel
theorem d_jdk_43_method_4_8 : decode jdk_43_method_4_code 8 = .ok (.if_icmp .gt 7, 3) := by decide +kernel
theorem d_jdk_43_method_4_11 : decode jdk_43_method_4_code 11 = .ok (.iconst 1, 1) := by decide +kernel
theorem d_jdk_43_method_4_12 : decode jdk_43_method_4_code 12 = .ok (.goto 4, 3) := by decide +kernel
theorem d_jdk_43_method_4_16 : decode jdk_43_method_4_code 16 = .ok (.ireturn, 1) := by decide +kernel
theorem pn_0 : plainName "java/lang/StringLatin1" = true := by first | (simp [plainName, overriddenIn]; done) | decide +kernel
theorem ef_cei (mt : MethodId) (x : Int32) : entryFrame mt #[(.int x)] 1 = mkF mt 0 #[.val (.int x)] [] := by first | (simp [entryFrame, mkF, argsToLocals, Value.category]; done) | rfl
def Q_cei (Z : State) (x : Int32) (h0 : Heap) (n0 : Nat) (v : Option Value) (h : Heap) (L : List Loc) : Prop := v = some (.int (1 : Int32)) ∧ Fr n0 L ∧ h = h0
set_option maxRecDepth 65536 in
set_option maxHeartbeats 40000000 in
theorem rm_cei (l : Launch) (Z : State) (a0 : Array Value) (hw : ∀ d ∈ tables_1, d.before a0 Z = true) (ws : List Jvm.Cond) (x : Int32) (h0 : Heap) (n0 : Nat) (Z0 : n0 ≤ h0.size) (hx0 : ¬ x < (0 : Int32)) (hx1 : ¬ (255 : Int32) < x) :
    MetFree l (⟨"java/lang/StringLatin1", "canEncode", "(I)Z"⟩ : MethodName) (head1 (Jvm.Cond.code (⟨"java/lang/StringLatin1", "canEncode", "(I)Z"⟩ : MethodName) jdk_43_method_4_code 1 (some .boolean) :: ws) ({ frames := 0, cells := 0, slots := 0, locals := 0 } : Room)) (fun aa UU => aa = #[(.int x)] ∧ Z.Warmed39 UU.vm ∧ UU.heap = h0) (fun _ _ _ _ _ => True) (fun _ UU oo UU' => ∃ vv LL, oo = .returned vv ∧ Q_cei Z x h0 n0 vv UU'.heap LL ∧ FrameEnd UU oo UU' LL ({ frames := 0, cells := 0, slots := 0, locals := 0 } : Room).cells ({ frames := 0, cells := 0, slots := 0, locals := 0 } : Room).slots) := by
  refine MetFree.of_bodySF (plainFor_of_name pn_0) hisR ?_
  intro p e s mt args below meth cd s₁ Bd hml0 hP hK
  obtain ⟨hA, hZ, hh⟩ := hP
  have hx := Bd.exec
  have hby := Bd.bytes
  have hml : cd.maxLocals = 1 := hml0
  have hown : s.vm.findClass "java/lang/StringLatin1" = some mt.cls := findClass_of_methodNamed Bd.named
  have hnm := (name_of_methodNamed Bd.named Bd.method).1
  have hlk : meth.locks = false := BodyLoose.notSynchronized Bd
  have hrt := Bd.returns
  have X0 : Stand p l e ({ frames := 0, cells := 0, slots := 0, locals := 0 } : Room) s mt args below meth cd s₁ [] 0 0 := Stand.of_body Bd
  have e0 : s₁.heap = h0 := by rw [← hh, Bd.state]; rfl
  have N0 := Fr.nil n0
  show Win p e below (Ends s (Q_cei Z x h0 n0) ({ frames := 0, cells := 0, slots := 0, locals := 0 } : Room).cells ({ frames := 0, cells := 0, slots := 0, locals := 0 } : Room).slots) s₁ (entryFrame mt args 1)
  rw [hA, ef_cei]
  refine Win.st ?_ (fun tq kq => XS.iloadN X0.here hx rfl (hb hby d_jdk_43_method_4_0) rfl kq)
  show Win p e below _ s₁ (mkF mt 1 #[.val (.int x)] [(.int x)])
  refine Win.st ?_ (fun tq kq => XS.ifNo X0.here hx rfl (hb hby d_jdk_43_method_4_1) rfl ((if0 _ _).trans (flt hx0).1) kq)
  show Win p e below _ s₁ (mkF mt 4 #[.val (.int x)] [])
  refine Win.st ?_ (fun tq kq => XS.iloadN X0.here hx rfl (hb hby d_jdk_43_method_4_4) rfl kq)
  show Win p e below _ s₁ (mkF mt 5 #[.val (.int x)] [(.int x)])
  refine Win.st ?_ (fun tq kq => XS.sipush X0.here hx rfl (hb hby d_jdk_43_method_4_5) kq)
  show Win p e below _ s₁ (mkF mt 8 #[.val (.int x)] [(.int (255 : Int32)), (.int x)])
  refine Win.st ?_ (fun tq kq => XS.icmpNo X0.here hx rfl (hb hby d_jdk_43_method_4_8) rfl (flt hx1).2.2.1 kq)
  show Win p e below _ s₁ (mkF mt 11 #[.val (.int x)] [])
  refine Win.st ?_ (fun tq kq => XS.iconst X0.here hx rfl (hb hby d_jdk_43_method_4_11) kq)
  show Win p e below _ s₁ (mkF mt 12 #[.val (.int x)] [(.int (1 : Int32))])
  refine Win.st ?_ (fun tq kq => XS.goto X0.here hx rfl (pc0 := 12) (pc' := 16) rfl (hb hby d_jdk_43_method_4_12) (by decide) (by decide) kq)
  show Win p e below _ s₁ (mkF mt 16 #[.val (.int x)] [(.int (1 : Int32))])
  exact Win.retN X0 hx hlk e0 (t := .boolean) (z' := (1 : Int32)) hrt (by simp) (hb hby d_jdk_43_method_4_16) (by decide) (by decide) rfl ⟨rfl, N0, rfl⟩
theorem d_jdk_42_method_154_0 : decode jdk_42_method_154_code 0 = .ok (.getstatic 38, 3) := by decide +kernel
theorem d_jdk_42_method_154_3 : decode jdk_42_method_154_code 3 = .ok (.ifCond .eq 14, 3) := by decide +kernel
theorem d_jdk_42_method_154_6 : decode jdk_42_method_154_code 6 = .ok (.aload_n 0, 1) := by decide +kernel
theorem d_jdk_42_method_154_7 : decode jdk_42_method_154_code 7 = .ok (.getfield 15, 3) := by decide +kernel
theorem d_jdk_42_method_154_10 : decode jdk_42_method_154_code 10 = .ok (.ifCond .ne 7, 3) := by decide +kernel
theorem d_jdk_42_method_154_13 : decode jdk_42_method_154_code 13 = .ok (.iconst 1, 1) := by decide +kernel
theorem d_jdk_42_method_154_14 : decode jdk_42_method_154_code 14 = .ok (.goto 4, 3) := by decide +kernel
theorem d_jdk_42_method_154_18 : decode jdk_42_method_154_code 18 = .ok (.ireturn, 1) := by decide +kernel
theorem pn_1 : plainName "java/lang/String" = true := by first | (simp [plainName, overriddenIn]; done) | decide +kernel
theorem ef_islatin1 (mt : MethodId) (a : Addr) : entryFrame mt #[(.ref a)] 1 = mkF mt 0 #[.val (.ref a)] [] := by first | (simp [entryFrame, mkF, argsToLocals, Value.category]; done) | rfl
def Q_islatin1 (Z : State) (a : Addr) (cs : Int32) (h0 : Heap) (n0 : Nat) (v : Option Value) (h : Heap) (L : List Loc) : Prop := v = some (.int (1 : Int32)) ∧ Fr n0 L ∧ h = h0
set_option maxRecDepth 65536 in
set_option maxHeartbeats 40000000 in
theorem rm_islatin1 (l : Launch) (Z : State) (a0 : Array Value) (hw : ∀ d ∈ tables_1, d.before a0 Z = true) (ws : List Jvm.Cond) (a : Addr) (cs : Int32) (h0 : Heap) (n0 : Nat) (Z0 : n0 ≤ h0.size) (Fc : Fld Z h0 a "java/lang/String" "coder" "B" (.int (0 : Int32))) (S0 : Sta Z Z.heap "java/lang/String" "COMPACT_STRINGS" "Z" (.int cs)) (hcs : ¬ cs = (0 : Int32)) (O : Old Z n0 h0) :
    MetFree l (⟨"java/lang/String", "isLatin1", "()Z"⟩ : MethodName) (head1 (Jvm.Cond.code (⟨"java/lang/String", "isLatin1", "()Z"⟩ : MethodName) jdk_42_method_154_code 1 (some .boolean) :: ws) ({ frames := 0, cells := 0, slots := 0, locals := 0 } : Room)) (fun aa UU => aa = #[(.ref a)] ∧ Z.Warmed39 UU.vm ∧ UU.heap = h0) (fun _ _ _ _ _ => True) (fun _ UU oo UU' => ∃ vv LL, oo = .returned vv ∧ Q_islatin1 Z a cs h0 n0 vv UU'.heap LL ∧ FrameEnd UU oo UU' LL ({ frames := 0, cells := 0, slots := 0, locals := 0 } : Room).cells ({ frames := 0, cells := 0, slots := 0, locals := 0 } : Room).slots) := by
  refine MetFree.of_bodySF (plainFor_of_name pn_1) hisR ?_
  intro p e s mt args below meth cd s₁ Bd hml0 hP hK
  obtain ⟨hA, hZ, hh⟩ := hP
  have hx := Bd.exec
  have hby := Bd.bytes
  have hml : cd.maxLocals = 1 := hml0
  have hown : s.vm.findClass "java/lang/String" = some mt.cls := findClass_of_methodNamed Bd.named
  have hnm := (name_of_methodNamed Bd.named Bd.method).1
  have hlk : meth.locks = false := BodyLoose.notSynchronized Bd
  have hrt := Bd.returns
  have X0 : Stand p l e ({ frames := 0, cells := 0, slots := 0, locals := 0 } : Room) s mt args below meth cd s₁ [] 0 0 := Stand.of_body Bd
  have e0 : s₁.heap = h0 := by rw [← hh, Bd.state]; rfl
  have N0 := Fr.nil n0
  show Win p e below (Ends s (Q_islatin1 Z a cs h0 n0) ({ frames := 0, cells := 0, slots := 0, locals := 0 } : Room).cells ({ frames := 0, cells := 0, slots := 0, locals := 0 } : Room).slots) s₁ (entryFrame mt args 1)
  rw [hA, ef_islatin1]
  obtain ⟨T11, X11, e11, st11⟩ := getS2 X0 hx hZ hown (host := "") (Or.inl (hw _ (List.mem_of_getElem? (i := 49) rfl))) Via.refl e0 (S0.ext O.2) (g := (mkF mt 0 #[.val (.ref a)] [])) rfl (hb hby d_jdk_42_method_154_0)
  refine Win.st ?_ st11
  show Win p e below _ T11 (mkF mt 3 #[.val (.ref a)] [(.int cs)])
  refine Win.st ?_ (fun tq kq => XS.ifNo X11.here hx rfl (hb hby d_jdk_42_method_154_3) rfl ((if0 _ _).trans (feq hcs).1) kq)
  show Win p e below _ T11 (mkF mt 6 #[.val (.ref a)] [])
  refine Win.st ?_ (fun tq kq => XS.aloadN X11.here hx rfl (hb hby d_jdk_42_method_154_6) rfl rfl kq)
  show Win p e below _ T11 (mkF mt 7 #[.val (.ref a)] [(.ref a)])
  obtain ⟨T12, X12, e12, st12⟩ := getF X11 hx hZ hown (host := "") (Or.inl (hw _ (List.mem_of_getElem? (i := 29) rfl))) Via.refl e11 Fc (g := (mkF mt 7 #[.val (.ref a)] [(.ref a)])) rfl rfl (hb hby d_jdk_42_method_154_7)
  refine Win.st ?_ st12
  show Win p e below _ T12 (mkF mt 10 #[.val (.ref a)] [(.int (0 : Int32))])
  refine Win.st ?_ (fun tq kq => XS.ifNo X12.here hx rfl (hb hby d_jdk_42_method_154_10) rfl ((if0 _ _).trans (teq (rfl : (0 : Int32) = (0 : Int32))).2) kq)
  show Win p e below _ T12 (mkF mt 13 #[.val (.ref a)] [])
  refine Win.st ?_ (fun tq kq => XS.iconst X12.here hx rfl (hb hby d_jdk_42_method_154_13) kq)
  show Win p e below _ T12 (mkF mt 14 #[.val (.ref a)] [(.int (1 : Int32))])
  refine Win.st ?_ (fun tq kq => XS.goto X12.here hx rfl (pc0 := 14) (pc' := 18) rfl (hb hby d_jdk_42_method_154_14) (by decide) (by decide) kq)
  show Win p e below _ T12 (mkF mt 18 #[.val (.ref a)] [(.int (1 : Int32))])
  exact Win.retN X12 hx hlk e12 (t := .boolean) (z' := (1 : Int32)) hrt (by simp) (hb hby d_jdk_42_method_154_18) (by decide) (by decide) rfl ⟨rfl, N0, rfl⟩
theorem d_jdk_42_method_152_0 : decode jdk_42_method_152_code 0 = .ok (.getstatic 38, 3) := by decide +kernel
theorem d_jdk_42_method_152_3 : decode jdk_42_method_152_code 3 = .ok (.ifCond .eq 10, 3) := by decide +kernel
theorem d_jdk_42_method_152_6 : decode jdk_42_method_152_code 6 = .ok (.aload_n 0, 1) := by decide +kernel
theorem d_jdk_42_method_152_7 : decode jdk_42_method_152_code 7 = .ok (.getfield 15, 3) := by decide +kernel
theorem d_jdk_42_method_152_10 : decode jdk_42_method_152_code 10 = .ok (.goto 4, 3) := by decide +kernel
theorem d_jdk_42_method_152_14 : decode jdk_42_method_152_code 14 = .ok (.ireturn, 1) := by decide +kernel
theorem ef_coder (mt : MethodId) (a : Addr) : entryFrame mt #[(.ref a)] 1 = mkF mt 0 #[.val (.ref a)] [] := by first | (simp [entryFrame, mkF, argsToLocals, Value.category]; done) | rfl
def Q_coder (Z : State) (a : Addr) (cs : Int32) (h0 : Heap) (n0 : Nat) (v : Option Value) (h : Heap) (L : List Loc) : Prop := v = some (.int (0 : Int32)) ∧ Fr n0 L ∧ h = h0
set_option maxRecDepth 65536 in
set_option maxHeartbeats 40000000 in
theorem rm_coder (l : Launch) (Z : State) (a0 : Array Value) (hw : ∀ d ∈ tables_1, d.before a0 Z = true) (ws : List Jvm.Cond) (a : Addr) (cs : Int32) (h0 : Heap) (n0 : Nat) (Z0 : n0 ≤ h0.size) (Fc : Fld Z h0 a "java/lang/String" "coder" "B" (.int (0 : Int32))) (S0 : Sta Z Z.heap "java/lang/String" "COMPACT_STRINGS" "Z" (.int cs)) (hcs : ¬ cs = (0 : Int32)) (O : Old Z n0 h0) :
    MetFree l (⟨"java/lang/String", "coder", "()B"⟩ : MethodName) (head1 (Jvm.Cond.code (⟨"java/lang/String", "coder", "()B"⟩ : MethodName) jdk_42_method_152_code 1 (some .byte) :: ws) ({ frames := 0, cells := 0, slots := 0, locals := 0 } : Room)) (fun aa UU => aa = #[(.ref a)] ∧ Z.Warmed39 UU.vm ∧ UU.heap = h0) (fun _ _ _ _ _ => True) (fun _ UU oo UU' => ∃ vv LL, oo = .returned vv ∧ Q_coder Z a cs h0 n0 vv UU'.heap LL ∧ FrameEnd UU oo UU' LL ({ frames := 0, cells := 0, slots := 0, locals := 0 } : Room).cells ({ frames := 0, cells := 0, slots := 0, locals := 0 } : Room).slots) := by
  refine MetFree.of_bodySF (plainFor_of_name pn_1) hisR ?_
  intro p e s mt args below meth cd s₁ Bd hml0 hP hK
  obtain ⟨hA, hZ, hh⟩ := hP
  have hx := Bd.exec
  have hby := Bd.bytes
  have hml : cd.maxLocals = 1 := hml0
  have hown : s.vm.findClass "java/lang/String" = some mt.cls := findClass_of_methodNamed Bd.named
  have hnm := (name_of_methodNamed Bd.named Bd.method).1
  have hlk : meth.locks = false := BodyLoose.notSynchronized Bd
  have hrt := Bd.returns
  have X0 : Stand p l e ({ frames := 0, cells := 0, slots := 0, locals := 0 } : Room) s mt args below meth cd s₁ [] 0 0 := Stand.of_body Bd
  have e0 : s₁.heap = h0 := by rw [← hh, Bd.state]; rfl
  have N0 := Fr.nil n0
  show Win p e below (Ends s (Q_coder Z a cs h0 n0) ({ frames := 0, cells := 0, slots := 0, locals := 0 } : Room).cells ({ frames := 0, cells := 0, slots := 0, locals := 0 } : Room).slots) s₁ (entryFrame mt args 1)
  rw [hA, ef_coder]
  obtain ⟨T13, X13, e13, st13⟩ := getS2 X0 hx hZ hown (host := "") (Or.inl (hw _ (List.mem_of_getElem? (i := 49) rfl))) Via.refl e0 (S0.ext O.2) (g := (mkF mt 0 #[.val (.ref a)] [])) rfl (hb hby d_jdk_42_method_152_0)
  refine Win.st ?_ st13
  show Win p e below _ T13 (mkF mt 3 #[.val (.ref a)] [(.int cs)])
  refine Win.st ?_ (fun tq kq => XS.ifNo X13.here hx rfl (hb hby d_jdk_42_method_152_3) rfl ((if0 _ _).trans (feq hcs).1) kq)
  show Win p e below _ T13 (mkF mt 6 #[.val (.ref a)] [])
  refine Win.st ?_ (fun tq kq => XS.aloadN X13.here hx rfl (hb hby d_jdk_42_method_152_6) rfl rfl kq)
  show Win p e below _ T13 (mkF mt 7 #[.val (.ref a)] [(.ref a)])
  obtain ⟨T14, X14, e14, st14⟩ := getF X13 hx hZ hown (host := "") (Or.inl (hw _ (List.mem_of_getElem? (i := 29) rfl))) Via.refl e13 Fc (g := (mkF mt 7 #[.val (.ref a)] [(.ref a)])) rfl rfl (hb hby d_jdk_42_method_152_7)
  refine Win.st ?_ st14
  show Win p e below _ T14 (mkF mt 10 #[.val (.ref a)] [(.int (0 : Int32))])
  refine Win.st ?_ (fun tq kq => XS.goto X14.here hx rfl (pc0 := 10) (pc' := 14) rfl (hb hby d_jdk_42_method_152_10) (by decide) (by decide) kq)
  show Win p e below _ T14 (mkF mt 14 #[.val (.ref a)] [(.int (0 : Int32))])
  exact Win.retN X14 hx hlk e14 (t := .byte) (z' := (0 : Int32)) hrt (by simp) (hb hby d_jdk_42_method_152_14) (by decide) (by decide) rfl ⟨rfl, N0, rfl⟩
theorem d_jdk_42_method_54_0 : decode jdk_42_method_54_code 0 = .ok (.aload_n 0, 1) := by decide +kernel
theorem d_jdk_42_method_54_1 : decode jdk_42_method_54_code 1 = .ok (.getfield 9, 3) := by decide +kernel
theorem d_jdk_42_method_54_4 : decode jdk_42_method_54_code 4 = .ok (.arraylength, 1) := by decide +kernel
theorem d_jdk_42_method_54_5 : decode jdk_42_method_54_code 5 = .ok (.aload_n 0, 1) := by decide +kernel
theorem d_jdk_42_method_54_6 : decode jdk_42_method_54_code 6 = .ok (.invokevirtual 335, 3) := by decide +kernel
theorem pd_0 : parseMethodDescriptor "()B" = some ⟨[], some .byte⟩ := by decide +kernel
theorem d_jdk_42_method_54_9 : decode jdk_42_method_54_code 9 = .ok (.ishr, 1) := by decide +kernel
theorem d_jdk_42_method_54_10 : decode jdk_42_method_54_code 10 = .ok (.ireturn, 1) := by decide +kernel
theorem ef_slen (mt : MethodId) (a : Addr) : entryFrame mt #[(.ref a)] 1 = mkF mt 0 #[.val (.ref a)] [] := by first | (simp [entryFrame, mkF, argsToLocals, Value.category]; done) | rfl
def Q_slen (Z : State) (a : Addr) (b : Addr) (k : ClassId) (z : Int32) (vs : List Value) (cs : Int32) (h0 : Heap) (n0 : Nat) (v : Option Value) (h : Heap) (L : List Loc) : Prop := v = some (.int z) ∧ Fr n0 L ∧ h = h0
set_option maxRecDepth 65536 in
set_option maxHeartbeats 40000000 in
theorem rm_slen (l : Launch) (Z : State) (a0 : Array Value) (hw : ∀ d ∈ tables_1, d.before a0 Z = true) (ws : List Jvm.Cond) (a : Addr) (b : Addr) (k : ClassId) (z : Int32) (vs : List Value) (cs : Int32) (h0 : Heap) (n0 : Nat) (Z0 : n0 ≤ h0.size) (E : Exa Z h0 a "java/lang/String") (Fv : Fld Z h0 a "java/lang/String" "value" "[B" (.ref b)) (Fc : Fld Z h0 a "java/lang/String" "coder" "B" (.int (0 : Int32))) (V : Arv Z h0 b k .byte z vs (.int (0 : Int32))) (S0 : Sta Z Z.heap "java/lang/String" "COMPACT_STRINGS" "Z" (.int cs)) (hcs : ¬ cs = (0 : Int32)) (O : Old Z n0 h0) :
    MetFree l (⟨"java/lang/String", "length", "()I"⟩ : MethodName) (head1 (Jvm.Cond.code (⟨"java/lang/String", "length", "()I"⟩ : MethodName) jdk_42_method_54_code 1 (some .int) :: ws) ({ frames := 1, cells := 0, slots := 0, locals := 13 } : Room)) (fun aa UU => aa = #[(.ref a)] ∧ Z.Warmed39 UU.vm ∧ UU.heap = h0) (fun _ _ _ _ _ => True) (fun _ UU oo UU' => ∃ vv LL, oo = .returned vv ∧ Q_slen Z a b k z vs cs h0 n0 vv UU'.heap LL ∧ FrameEnd UU oo UU' LL ({ frames := 1, cells := 0, slots := 0, locals := 13 } : Room).cells ({ frames := 1, cells := 0, slots := 0, locals := 13 } : Room).slots) := by
  refine MetFree.of_bodySF (plainFor_of_name pn_1) hisR ?_
  intro p e s mt args below meth cd s₁ Bd hml0 hP hK
  obtain ⟨hA, hZ, hh⟩ := hP
  have hx := Bd.exec
  have hby := Bd.bytes
  have hml : cd.maxLocals = 1 := hml0
  have hown : s.vm.findClass "java/lang/String" = some mt.cls := findClass_of_methodNamed Bd.named
  have hnm := (name_of_methodNamed Bd.named Bd.method).1
  have hlk : meth.locks = false := BodyLoose.notSynchronized Bd
  have hrt := Bd.returns
  have X0 : Stand p l e ({ frames := 1, cells := 0, slots := 0, locals := 13 } : Room) s mt args below meth cd s₁ [] 0 0 := Stand.of_body Bd
  have e0 : s₁.heap = h0 := by rw [← hh, Bd.state]; rfl
  have N0 := Fr.nil n0
  show Win p e below (Ends s (Q_slen Z a b k z vs cs h0 n0) ({ frames := 1, cells := 0, slots := 0, locals := 13 } : Room).cells ({ frames := 1, cells := 0, slots := 0, locals := 13 } : Room).slots) s₁ (entryFrame mt args 1)
  rw [hA, ef_slen]
  refine Win.st ?_ (fun tq kq => XS.aloadN X0.here hx rfl (hb hby d_jdk_42_method_54_0) rfl rfl kq)
  show Win p e below _ s₁ (mkF mt 1 #[.val (.ref a)] [(.ref a)])
  obtain ⟨T15, X15, e15, st15⟩ := getF X0 hx hZ hown (host := "") (Or.inl (hw _ (List.mem_of_getElem? (i := 28) rfl))) Via.refl e0 Fv (g := (mkF mt 1 #[.val (.ref a)] [(.ref a)])) rfl rfl (hb hby d_jdk_42_method_54_1)
  refine Win.st ?_ st15
  show Win p e below _ T15 (mkF mt 4 #[.val (.ref a)] [(.ref b)])
  refine Win.st ?_ (own_alen (g := (mkF mt 4 #[.val (.ref a)] [(.ref b)])) X15 hx hZ e15 V rfl rfl (hb hby d_jdk_42_method_54_4))
  show Win p e below _ T15 (mkF mt 5 #[.val (.ref a)] [(.int z)])
  refine Win.st ?_ (fun tq kq => XS.aloadN X15.here hx rfl (hb hby d_jdk_42_method_54_5) rfl rfl kq)
  show Win p e below _ T15 (mkF mt 6 #[.val (.ref a)] [(.ref a), (.int z)])
  obtain ⟨cq16, kq16, q16a, q16b, q16c⟩ := isOf hZ e15 E
  obtain ⟨v16, _, ⟨T16, L16, k16, n16⟩, -, X16, ⟨Lc16, hQ16, l16, y16, z16⟩, st16⟩ := X15.virtualBack hx (y := (⟨"java/lang/String", "coder", "()B"⟩ : MethodName)) (z := (⟨"java/lang/String", "coder", "()B"⟩ : MethodName)) hown (mvT hZ (hw _ (List.mem_of_getElem? (i := 55) rfl))) (mvT hZ (hw _ (List.mem_of_getElem? (i := 56) rfl))) (notFace_of_selects (args := #[]) (mvT hZ (hw _ (List.mem_of_getElem? (i := 58) rfl)))) (mvT hZ (hw _ (List.mem_of_getElem? (i := 58) rfl))) (mvT hZ (hw _ (List.mem_of_getElem? (i := 57) rfl))) (by decide) (backOf (W := 1) (rm_coder l Z a0 hw [] a cs h0 n0 Z0 Fc S0 hcs O) hZ (hw _ (List.mem_of_getElem? (i := 59) rfl)) (hw _ (List.mem_of_getElem? (i := 10) rfl)) (by decide) (by decide)) q16a q16c (g := (mkF mt 6 #[.val (.ref a)] [(.ref a), (.int z)])) rfl (by rw [hml]; rfl) (Steps.refl _) (argsL := []) (rest := [(.int z)]) (lenOf pd_0 rfl) rfl (by show 2 * 0 + _ ≤ _; exact Nat.le_of_eq rfl) (hb hby d_jdk_42_method_54_6) (fun _ _ => ⟨rfl, e15, (by decide : 0 + 0 ≤ _), (by decide : 0 + 0 ≤ _)⟩)
  dsimp only [Pt.U, Pt.locs, Pt.cells, Pt.slots] at X16 l16 y16 z16 st16 hQ16
  subst y16 z16
  replace X16 : Stand p l e _ s mt args below meth cd T16 L16 0 0 := X16
  obtain ⟨h16, e16⟩ : ∃ z, T16.heap = z := ⟨_, rfl⟩
  rw [e16] at hQ16
  obtain ⟨rfl, Nq16, eh16⟩ := hQ16
  have N16 : Fr n0 L16 := by rw [l16]; exact Fr.app N0 Nq16
  rw [eh16] at e16
  refine Win.tr ?_ st16
  show Win p e below _ T16 (mkF mt 9 #[.val (.ref a)] [(.int (0 : Int32)), (.int z)])
  refine Win.st ?_ (fun tq kq => XS.ishr X16.here hx rfl (hb hby d_jdk_42_method_54_9) rfl kq)
  show Win p e below _ T16 (mkF mt 10 #[.val (.ref a)] [(.int (z >>> ((0 : Int32) &&& 31)))])
  exact Win.ret X16 hx hlk e16 hrt rfl (Or.inl ⟨rfl, Or.inl rfl, _, rfl⟩) (hb hby d_jdk_42_method_54_10) (by decide) (by decide) ⟨by rw [own_shr0], N16, rfl⟩
theorem own_EW {Z : State} {a0 : Array Value} (hw : ∀ d ∈ tables_1, d.before a0 Z = true) : EW Z a0 own_EL := EW.cons (hw _ (List.mem_of_getElem? (i := 22) rfl)) (by decide) EW.nil
theorem d_jdk_42_method_149_0 : decode jdk_42_method_149_code 0 = .ok (.aload_n 0, 1) := by decide +kernel
theorem d_jdk_42_method_149_1 : decode jdk_42_method_149_code 1 = .ok (.invokespecial 1, 3) := by decide +kernel
theorem d_jdk_42_method_149_4 : decode jdk_42_method_149_code 4 = .ok (.iload_n 3, 1) := by decide +kernel
theorem d_jdk_42_method_149_5 : decode jdk_42_method_149_code 5 = .ok (.ifCond .ne 22, 3) := by decide +kernel
theorem d_jdk_42_method_149_8 : decode jdk_42_method_149_code 8 = .ok (.aload_n 0, 1) := by decide +kernel
theorem own_strw {Z : State} {a0 : Array Value} (hw : ∀ d ∈ tables_1, d.before a0 Z = true) : ∀ a ∈ Bundle.stringAtoms, a.before a0 Z = true := fun d hd => by
  simp only [Bundle.stringAtoms, List.mem_cons, List.not_mem_nil, or_false] at hd
  rcases hd with rfl | rfl | rfl | rfl | rfl | rfl | rfl
  · first | exact (hw _ (List.mem_of_getElem? (i := 10) rfl)) | exact (hw _ (List.mem_of_getElem? (i := 9) rfl)) | exact (hw _ (List.mem_of_getElem? (i := 23) rfl)) | exact (hw _ (List.mem_of_getElem? (i := 24) rfl)) | exact (hw _ (List.mem_of_getElem? (i := 25) rfl)) | exact (hw _ (List.mem_of_getElem? (i := 26) rfl)) | exact (hw _ (List.mem_of_getElem? (i := 27) rfl))
  · first | exact (hw _ (List.mem_of_getElem? (i := 10) rfl)) | exact (hw _ (List.mem_of_getElem? (i := 9) rfl)) | exact (hw _ (List.mem_of_getElem? (i := 23) rfl)) | exact (hw _ (List.mem_of_getElem? (i := 24) rfl)) | exact (hw _ (List.mem_of_getElem? (i := 25) rfl)) | exact (hw _ (List.mem_of_getElem? (i := 26) rfl)) | exact (hw _ (List.mem_of_getElem? (i := 27) rfl))
  · first | exact (hw _ (List.mem_of_getElem? (i := 10) rfl)) | exact (hw _ (List.mem_of_getElem? (i := 9) rfl)) | exact (hw _ (List.mem_of_getElem? (i := 23) rfl)) | exact (hw _ (List.mem_of_getElem? (i := 24) rfl)) | exact (hw _ (List.mem_of_getElem? (i := 25) rfl)) | exact (hw _ (List.mem_of_getElem? (i := 26) rfl)) | exact (hw _ (List.mem_of_getElem? (i := 27) rfl))
  · first | exact (hw _ (List.mem_of_getElem? (i := 10) rfl)) | exact (hw _ (List.mem_of_getElem? (i := 9) rfl)) | exact (hw _ (List.mem_of_getElem? (i := 23) rfl)) | exact (hw _ (List.mem_of_getElem? (i := 24) rfl)) | exact (hw _ (List.mem_of_getElem? (i := 25) rfl)) | exact (hw _ (List.mem_of_getElem? (i := 26) rfl)) | exact (hw _ (List.mem_of_getElem? (i := 27) rfl))
  · first | exact (hw _ (List.mem_of_getElem? (i := 10) rfl)) | exact (hw _ (List.mem_of_getElem? (i := 9) rfl)) | exact (hw _ (List.mem_of_getElem? (i := 23) rfl)) | exact (hw _ (List.mem_of_getElem? (i := 24) rfl)) | exact (hw _ (List.mem_of_getElem? (i := 25) rfl)) | exact (hw _ (List.mem_of_getElem? (i := 26) rfl)) | exact (hw _ (List.mem_of_getElem? (i := 27) rfl))
  · first | exact (hw _ (List.mem_of_getElem? (i := 10) rfl)) | exact (hw _ (List.mem_of_getElem? (i := 9) rfl)) | exact (hw _ (List.mem_of_getElem? (i := 23) rfl)) | exact (hw _ (List.mem_of_getElem? (i := 24) rfl)) | exact (hw _ (List.mem_of_getElem? (i := 25) rfl)) | exact (hw _ (List.mem_of_getElem? (i := 26) rfl)) | exact (hw _ (List.mem_of_getElem? (i := 27) rfl))
  · first | exact (hw _ (List.mem_of_getElem? (i := 10) rfl)) | exact (hw _ (List.mem_of_getElem? (i := 9) rfl)) | exact (hw _ (List.mem_of_getElem? (i := 23) rfl)) | exact (hw _ (List.mem_of_getElem? (i := 24) rfl)) | exact (hw _ (List.mem_of_getElem? (i := 25) rfl)) | exact (hw _ (List.mem_of_getElem? (i := 26) rfl)) | exact (hw _ (List.mem_of_getElem? (i := 27) rfl))
theorem d_jdk_42_method_149_9 : decode jdk_42_method_149_code 9 = .ok (.ldc 7, 2) := by decide +kernel
theorem d_jdk_42_method_149_11 : decode jdk_42_method_149_code 11 = .ok (.getfield 9, 3) := by decide +kernel
theorem d_jdk_42_method_149_14 : decode jdk_42_method_149_code 14 = .ok (.putfield 9, 3) := by decide +kernel
theorem d_jdk_42_method_149_17 : decode jdk_42_method_149_code 17 = .ok (.aload_n 0, 1) := by decide +kernel
theorem d_jdk_42_method_149_18 : decode jdk_42_method_149_code 18 = .ok (.ldc 7, 2) := by decide +kernel
theorem d_jdk_42_method_149_20 : decode jdk_42_method_149_code 20 = .ok (.getfield 15, 3) := by decide +kernel
theorem d_jdk_42_method_149_23 : decode jdk_42_method_149_code 23 = .ok (.putfield 15, 3) := by decide +kernel
theorem d_jdk_42_method_149_26 : decode jdk_42_method_149_code 26 = .ok (.return_, 1) := by decide +kernel
theorem ef_si6_0 (mt : MethodId) (a : Addr) (c : Addr) : entryFrame mt #[(.ref a), (.ref c), (.int (0 : Int32)), (.int (0 : Int32)), .null] 6 = mkF mt 0 #[.val (.ref a), .val (.ref c), .val (.int (0 : Int32)), .val (.int (0 : Int32)), .val .null, .unset] [] := by first | (simp [entryFrame, mkF, argsToLocals, Value.category]; done) | rfl
def Q_si6_0 (Z : State) (a : Addr) (c : Addr) (h0 : Heap) (n0 : Nat) (v : Option Value) (h : Heap) (L : List Loc) : Prop := v = none ∧ Fr n0 L ∧ Keep h0 h [a] ∧ Fld Z h a "java/lang/String" "coder" "B" (.int (0 : Int32)) ∧ ∃ (t : Addr) (k : ClassId), Fld Z h a "java/lang/String" "value" "[B" (.ref t) ∧ Arv Z h t k .byte (0 : Int32) [] (.int (0 : Int32))
set_option maxRecDepth 65536 in
set_option maxHeartbeats 40000000 in
theorem rm_si6_0 (l : Launch) (Z : State) (a0 : Array Value) (hw : ∀ d ∈ tables_1, d.before a0 Z = true) (ws : List Jvm.Cond) (a : Addr) (c : Addr) (h0 : Heap) (n0 : Nat) (Z0 : n0 ≤ h0.size) (E : Exa Z h0 a "java/lang/String") (Fv : Fld Z h0 a "java/lang/String" "value" "[B" .null) (Fc : Fld Z h0 a "java/lang/String" "coder" "B" (.int (0 : Int32))) (ga : n0 ≤ a) :
    MetFree l (⟨"java/lang/String", "<init>", "([CIILjava/lang/Void;)V"⟩ : MethodName) (head1 (Jvm.Cond.code (⟨"java/lang/String", "<init>", "([CIILjava/lang/Void;)V"⟩ : MethodName) jdk_42_method_149_code 6 none :: ws) ({ frames := 1, cells := 2, slots := 4, locals := 12 } : Room)) (fun aa UU => aa = #[(.ref a), (.ref c), (.int (0 : Int32)), (.int (0 : Int32)), .null] ∧ Z.Warmed39 UU.vm ∧ UU.heap = h0 ∧ CHv Z own_EL UU.vm h0) (fun _ _ _ _ _ => True) (fun _ UU oo UU' => ∃ vv LL, oo = .returned vv ∧ Q_si6_0 Z a c h0 n0 vv UU'.heap LL ∧ ReturnedEndW UU oo UU' LL ({ frames := 1, cells := 2, slots := 4, locals := 12 } : Room).cells ({ frames := 1, cells := 2, slots := 4, locals := 12 } : Room).slots) := by
  refine MetFree.of_bodySF (plainFor_of_name pn_1) hisR ?_
  intro p e s mt args below meth cd s₁ Bd hml0 hP hK
  obtain ⟨hA, hZ, hh, hC⟩ := hP
  have hx := Bd.exec
  have hby := Bd.bytes
  have hml : cd.maxLocals = 6 := hml0
  have hown : s.vm.findClass "java/lang/String" = some mt.cls := findClass_of_methodNamed Bd.named
  have hnm := (name_of_methodNamed Bd.named Bd.method).1
  have hlk : meth.locks = false := BodyLoose.notSynchronized Bd
  have hrt := Bd.returns
  have X0 : Stand p l e ({ frames := 1, cells := 2, slots := 4, locals := 12 } : Room) s mt args below meth cd s₁ [] 0 0 := Stand.of_body Bd
  have e0 : s₁.heap = h0 := by rw [← hh, Bd.state]; rfl
  have N0 := Fr.nil n0
  show Win p e below (EndsW s (Q_si6_0 Z a c h0 n0) ({ frames := 1, cells := 2, slots := 4, locals := 12 } : Room).cells ({ frames := 1, cells := 2, slots := 4, locals := 12 } : Room).slots) s₁ (entryFrame mt args 6)
  rw [hA, ef_si6_0]
  refine Win.st ?_ (fun tq kq => XS.aloadN X0.here hx rfl (hb hby d_jdk_42_method_149_0) rfl rfl kq)
  show Win p e below _ s₁ (mkF mt 1 #[.val (.ref a), .val (.ref c), .val (.int (0 : Int32)), .val (.int (0 : Int32)), .val .null, .unset] [(.ref a)])
  obtain ⟨T17, X17, e17, st17⟩ := initO X0 hx hZ hown (hw _ (List.mem_of_getElem? (i := 19) rfl)) (hw _ (List.mem_of_getElem? (i := 20) rfl)) (hw _ (List.mem_of_getElem? (i := 21) rfl)) e0 (g := (mkF mt 1 #[.val (.ref a), .val (.ref c), .val (.int (0 : Int32)), .val (.int (0 : Int32)), .val .null, .unset] [(.ref a)])) rfl (by rw [hml]; rfl) rfl (hb hby d_jdk_42_method_149_1) (by decide) (W := 0) (by show 2 * 0 + _ ≤ _; exact Nat.le_of_eq rfl) (by decide)
  refine Win.st ?_ st17
  show Win p e below _ T17 (mkF mt 4 #[.val (.ref a), .val (.ref c), .val (.int (0 : Int32)), .val (.int (0 : Int32)), .val .null, .unset] [])
  refine Win.st ?_ (fun tq kq => XS.iloadN X17.here hx rfl (hb hby d_jdk_42_method_149_4) rfl kq)
  show Win p e below _ T17 (mkF mt 5 #[.val (.ref a), .val (.ref c), .val (.int (0 : Int32)), .val (.int (0 : Int32)), .val .null, .unset] [(.int (0 : Int32))])
  refine Win.st ?_ (fun tq kq => XS.ifNo X17.here hx rfl (hb hby d_jdk_42_method_149_5) rfl ((if0 _ _).trans (teq (rfl : (0 : Int32) = (0 : Int32))).2) kq)
  show Win p e below _ T17 (mkF mt 8 #[.val (.ref a), .val (.ref c), .val (.int (0 : Int32)), .val (.int (0 : Int32)), .val .null, .unset] [])
  refine Win.st ?_ (fun tq kq => XS.aloadN X17.here hx rfl (hb hby d_jdk_42_method_149_8) rfl rfl kq)
  show Win p e below _ T17 (mkF mt 9 #[.val (.ref a), .val (.ref c), .val (.int (0 : Int32)), .val (.int (0 : Int32)), .val .null, .unset] [(.ref a)])
  obtain ⟨li, T18, h18, kk18, lb, lk, X18, e18, E18, hS18, hk18, hZ18, hown18, LE, LC, LV, LA, -, -, -, hL, -, st18⟩ := ldcCH (s := s) (vm0 := s.vm) X17 hx hZ hown (hw _ (List.mem_of_getElem? (i := 22) rfl)) (own_strw hw) e17 (State.WarmedH.since (State.WarmedH.refl s) 0) (Nat.zero_le _) (own_EW hw) (List.mem_of_getElem? (i := 0) rfl) hC (vs := []) (z := (0 : Int32)) ⟨by decide, rfl⟩ (by decide) rfl (g := (mkF mt 9 #[.val (.ref a), .val (.ref c), .val (.int (0 : Int32)), .val (.int (0 : Int32)), .val .null, .unset] [(.ref a)])) rfl (hb hby d_jdk_42_method_149_9) (n := 0) (by decide) (by decide) (by decide) (by decide)
  replace X18 : Stand p l e _ (s.setVm T18.vm) mt args below meth cd T18 _ 2 4 := X18
  have ke18 := own_kext E18
  have f19_14 := E.keep ke18
  have f19_15 := Fv.keep ke18 nin0
  have f19_16 := Fc.keep ke18 nin0
  have Z20 : n0 ≤ h18.size := Nat.le_trans Z0 ke18.1
  have K21 : Keep h0 h18 [a] := Keep.trans (Keep.refl h0 [a]) ke18 all0
  have nla : li ≠ a := Fld.ne LV f19_15 (by simp)
  have nba : lb ≠ a := Ne.symm (Exa.neArv f19_14 LA (hw _ (List.mem_of_getElem? (i := 9) rfl)))
  refine Win.st ?_ st18
  show Win p e below _ T18 (mkF mt 11 #[.val (.ref a), .val (.ref c), .val (.int (0 : Int32)), .val (.int (0 : Int32)), .val .null, .unset] [(.ref li), (.ref a)])
  obtain ⟨T22, X22, e22, st22⟩ := getF X18 hx hZ18 hown18 (host := "") (Or.inl (hw _ (List.mem_of_getElem? (i := 28) rfl))) Via.refl e18 LV (g := (mkF mt 11 #[.val (.ref a), .val (.ref c), .val (.int (0 : Int32)), .val (.int (0 : Int32)), .val .null, .unset] [(.ref li), (.ref a)])) rfl rfl (hb hby d_jdk_42_method_149_11)
  refine Win.st ?_ st22
  show Win p e below _ T22 (mkF mt 14 #[.val (.ref a), .val (.ref c), .val (.int (0 : Int32)), .val (.int (0 : Int32)), .val .null, .unset] [(.ref lb), (.ref a)])
  obtain ⟨T23, h23, X23, e23, W23, st23⟩ := putF X22 hx hZ18 hown18 (host := "") (Or.inl (hw _ (List.mem_of_getElem? (i := 28) rfl))) Via.refl e22 f19_15 f19_14 (Or.inr ⟨(hw _ (List.mem_of_getElem? (i := 24) rfl)), rfl, hnm⟩) (hw _ (List.mem_of_getElem? (i := 9) rfl)) (ty := (.array .byte)) (by decide) rfl rfl (g := (mkF mt 14 #[.val (.ref a), .val (.ref c), .val (.int (0 : Int32)), .val (.int (0 : Int32)), .val .null, .unset] [(.ref lb), (.ref a)])) rfl rfl (hb hby d_jdk_42_method_149_14)
  obtain ⟨L23, X23, N23⟩ := own_hide X23 N0 ga
  have kp23 := Keep.of_wr W23
  have fw23 := f19_15.same W23
  have f23_30 := f19_16.other W23 (Or.inr (slot_ne (Or.inr (hw _ (List.mem_of_getElem? (i := 25) rfl))) (Or.inr (hw _ (List.mem_of_getElem? (i := 24) rfl))) (by decide) (t := .byte) (t' := (.array .byte)) (by decide) (by decide)))
  have f24_31 := f19_14.keep kp23
  have f24_32 := LE.keep kp23
  have f24_33 := LV.keep kp23 (ninS nla nin0)
  have f24_34 := LC.keep kp23 (ninS nla nin0)
  have f24_35 := LA.keep kp23 (ninS nba nin0)
  have Z25 : n0 ≤ h23.size := Nat.le_trans Z20 kp23.1
  have hk26 := Nat.le_trans hk18 kp23.1
  have K27 : Keep h0 h23 [a] := Keep.trans K21 kp23 (allS (Or.inl (List.mem_of_getElem? (i := 0) rfl)) all0)
  refine Win.st ?_ st23
  show Win p e below _ T23 (mkF mt 17 #[.val (.ref a), .val (.ref c), .val (.int (0 : Int32)), .val (.int (0 : Int32)), .val .null, .unset] [])
  refine Win.st ?_ (fun tq kq => XS.aloadN X23.here hx rfl (hb hby d_jdk_42_method_149_17) rfl rfl kq)
  show Win p e below _ T23 (mkF mt 18 #[.val (.ref a), .val (.ref c), .val (.int (0 : Int32)), .val (.int (0 : Int32)), .val .null, .unset] [(.ref a)])
  refine Win.st ?_ (ldcAgain (s := s) (vm0 := T18.vm) X23 hx hZ18 hown18 (hw _ (List.mem_of_getElem? (i := 22) rfl)) hL (g := (mkF mt 18 #[.val (.ref a), .val (.ref c), .val (.int (0 : Int32)), .val (.int (0 : Int32)), .val .null, .unset] [(.ref a)])) rfl (hb hby d_jdk_42_method_149_18))
  show Win p e below _ T23 (mkF mt 20 #[.val (.ref a), .val (.ref c), .val (.int (0 : Int32)), .val (.int (0 : Int32)), .val .null, .unset] [(.ref li), (.ref a)])
  obtain ⟨T28, X28, e28, st28⟩ := getF X23 hx hZ18 hown18 (host := "") (Or.inl (hw _ (List.mem_of_getElem? (i := 29) rfl))) Via.refl e23 f24_34 (g := (mkF mt 20 #[.val (.ref a), .val (.ref c), .val (.int (0 : Int32)), .val (.int (0 : Int32)), .val .null, .unset] [(.ref li), (.ref a)])) rfl rfl (hb hby d_jdk_42_method_149_20)
  refine Win.st ?_ st28
  show Win p e below _ T28 (mkF mt 23 #[.val (.ref a), .val (.ref c), .val (.int (0 : Int32)), .val (.int (0 : Int32)), .val .null, .unset] [(.int (0 : Int32)), (.ref a)])
  obtain ⟨T29, h29, X29, e29, W29, st29⟩ := putFN X28 hx hZ18 hown18 (hw _ (List.mem_of_getElem? (i := 29) rfl)) Via.refl e28 f23_30 f24_31 (Or.inr ⟨(hw _ (List.mem_of_getElem? (i := 25) rfl)), rfl, hnm⟩) (hw _ (List.mem_of_getElem? (i := 9) rfl)) (ty := .byte) (v' := (.int (0 : Int32))) (by decide) rfl (by decide) (g := (mkF mt 23 #[.val (.ref a), .val (.ref c), .val (.int (0 : Int32)), .val (.int (0 : Int32)), .val .null, .unset] [(.int (0 : Int32)), (.ref a)])) rfl rfl (hb hby d_jdk_42_method_149_23)
  obtain ⟨L29, X29, N29⟩ := own_hide X29 N23 ga
  have kp29 := Keep.of_wr W29
  have f29_51 := fw23.other W29 (Or.inr (slot_ne (Or.inr (hw _ (List.mem_of_getElem? (i := 24) rfl))) (Or.inr (hw _ (List.mem_of_getElem? (i := 25) rfl))) (by decide) (t := (.array .byte)) (t' := .byte) (by decide) (by decide)))
  have fw29 := f23_30.same W29
  have f30_53 := f24_31.keep kp29
  have f30_54 := f24_32.keep kp29
  have f30_55 := f24_33.keep kp29 (ninS nla nin0)
  have f30_56 := f24_34.keep kp29 (ninS nla nin0)
  have f30_57 := f24_35.keep kp29 (ninS nba nin0)
  have Z31 : n0 ≤ h29.size := Nat.le_trans Z25 kp29.1
  have hk32 := Nat.le_trans hk26 kp29.1
  have K33 : Keep h0 h29 [a] := Keep.trans K27 kp29 (allS (Or.inl (List.mem_of_getElem? (i := 0) rfl)) all0)
  refine Win.st ?_ st29
  show Win p e below _ T29 (mkF mt 26 #[.val (.ref a), .val (.ref c), .val (.int (0 : Int32)), .val (.int (0 : Int32)), .val .null, .unset] [])
  exact Win.retVW (s := s) (vm₁ := T18.vm) X29 hS18 hk32 hx hlk e29 hrt (hb hby d_jdk_42_method_149_26) (by decide) (by decide) ⟨rfl, N29, K33, fw29, lb, lk, f29_51, f30_57⟩
theorem d_jdk_42_method_3_0 : decode jdk_42_method_3_code 0 = .ok (.aload_n 0, 1) := by decide +kernel
theorem d_jdk_42_method_3_1 : decode jdk_42_method_3_code 1 = .ok (.aload_n 1, 1) := by decide +kernel
theorem d_jdk_42_method_3_2 : decode jdk_42_method_3_code 2 = .ok (.iconst 0, 1) := by decide +kernel
theorem d_jdk_42_method_3_3 : decode jdk_42_method_3_code 3 = .ok (.aload_n 1, 1) := by decide +kernel
theorem d_jdk_42_method_3_4 : decode jdk_42_method_3_code 4 = .ok (.arraylength, 1) := by decide +kernel
theorem d_jdk_42_method_3_5 : decode jdk_42_method_3_code 5 = .ok (.aconst_null, 1) := by decide +kernel
theorem d_jdk_42_method_3_6 : decode jdk_42_method_3_code 6 = .ok (.invokespecial 27, 3) := by decide +kernel
theorem pd_1 : parseMethodDescriptor "([CIILjava/lang/Void;)V" = some ⟨[(.array .char), .int, .int, (.object "java/lang/Void")], none⟩ := by decide +kernel
theorem d_jdk_42_method_3_9 : decode jdk_42_method_3_code 9 = .ok (.return_, 1) := by decide +kernel
theorem ef_si3_0 (mt : MethodId) (a : Addr) (c : Addr) : entryFrame mt #[(.ref a), (.ref c)] 2 = mkF mt 0 #[.val (.ref a), .val (.ref c)] [] := by first | (simp [entryFrame, mkF, argsToLocals, Value.category]; done) | rfl
def Q_si3_0 (Z : State) (a : Addr) (c : Addr) (kc : ClassId) (h0 : Heap) (n0 : Nat) (v : Option Value) (h : Heap) (L : List Loc) : Prop := v = none ∧ Fr n0 L ∧ Keep h0 h [a] ∧ Fld Z h a "java/lang/String" "coder" "B" (.int (0 : Int32)) ∧ ∃ (t : Addr) (k : ClassId), Fld Z h a "java/lang/String" "value" "[B" (.ref t) ∧ Arv Z h t k .byte (0 : Int32) [] (.int (0 : Int32))
set_option maxRecDepth 65536 in
set_option maxHeartbeats 40000000 in
theorem rm_si3_0 (l : Launch) (Z : State) (a0 : Array Value) (hw : ∀ d ∈ tables_1, d.before a0 Z = true) (ws : List Jvm.Cond) (a : Addr) (c : Addr) (kc : ClassId) (h0 : Heap) (n0 : Nat) (Z0 : n0 ≤ h0.size) (E : Exa Z h0 a "java/lang/String") (Fv : Fld Z h0 a "java/lang/String" "value" "[B" .null) (Fc : Fld Z h0 a "java/lang/String" "coder" "B" (.int (0 : Int32))) (ga : n0 ≤ a) (VA : Arv Z h0 c kc .char (0 : Int32) [] (.int (0 : Int32))) :
    MetFree l (⟨"java/lang/String", "<init>", "([C)V"⟩ : MethodName) (head1 (Jvm.Cond.code (⟨"java/lang/String", "<init>", "([C)V"⟩ : MethodName) jdk_42_method_3_code 2 none :: ws) ({ frames := 2, cells := 2, slots := 4, locals := 29 } : Room)) (fun aa UU => aa = #[(.ref a), (.ref c)] ∧ Z.Warmed39 UU.vm ∧ UU.heap = h0 ∧ CHv Z own_EL UU.vm h0) (fun _ _ _ _ _ => True) (fun _ UU oo UU' => ∃ vv LL, oo = .returned vv ∧ Q_si3_0 Z a c kc h0 n0 vv UU'.heap LL ∧ ReturnedEndW UU oo UU' LL ({ frames := 2, cells := 2, slots := 4, locals := 29 } : Room).cells ({ frames := 2, cells := 2, slots := 4, locals := 29 } : Room).slots) := by
  refine MetFree.of_bodySF (plainFor_of_name pn_1) hisR ?_
  intro p e s mt args below meth cd s₁ Bd hml0 hP hK
  obtain ⟨hA, hZ, hh, hC⟩ := hP
  have hx := Bd.exec
  have hby := Bd.bytes
  have hml : cd.maxLocals = 2 := hml0
  have hown : s.vm.findClass "java/lang/String" = some mt.cls := findClass_of_methodNamed Bd.named
  have hnm := (name_of_methodNamed Bd.named Bd.method).1
  have hlk : meth.locks = false := BodyLoose.notSynchronized Bd
  have hrt := Bd.returns
  have X0 : Stand p l e ({ frames := 2, cells := 2, slots := 4, locals := 29 } : Room) s mt args below meth cd s₁ [] 0 0 := Stand.of_body Bd
  have e0 : s₁.heap = h0 := by rw [← hh, Bd.state]; rfl
  have N0 := Fr.nil n0
  show Win p e below (EndsW s (Q_si3_0 Z a c kc h0 n0) ({ frames := 2, cells := 2, slots := 4, locals := 29 } : Room).cells ({ frames := 2, cells := 2, slots := 4, locals := 29 } : Room).slots) s₁ (entryFrame mt args 2)
  rw [hA, ef_si3_0]
  refine Win.st ?_ (fun tq kq => XS.aloadN X0.here hx rfl (hb hby d_jdk_42_method_3_0) rfl rfl kq)
  show Win p e below _ s₁ (mkF mt 1 #[.val (.ref a), .val (.ref c)] [(.ref a)])
  refine Win.st ?_ (fun tq kq => XS.aloadN X0.here hx rfl (hb hby d_jdk_42_method_3_1) rfl rfl kq)
  show Win p e below _ s₁ (mkF mt 2 #[.val (.ref a), .val (.ref c)] [(.ref c), (.ref a)])
  refine Win.st ?_ (fun tq kq => XS.iconst X0.here hx rfl (hb hby d_jdk_42_method_3_2) kq)
  show Win p e below _ s₁ (mkF mt 3 #[.val (.ref a), .val (.ref c)] [(.int (0 : Int32)), (.ref c), (.ref a)])
  refine Win.st ?_ (fun tq kq => XS.aloadN X0.here hx rfl (hb hby d_jdk_42_method_3_3) rfl rfl kq)
  show Win p e below _ s₁ (mkF mt 4 #[.val (.ref a), .val (.ref c)] [(.ref c), (.int (0 : Int32)), (.ref c), (.ref a)])
  refine Win.st ?_ (own_alen (g := (mkF mt 4 #[.val (.ref a), .val (.ref c)] [(.ref c), (.int (0 : Int32)), (.ref c), (.ref a)])) X0 hx hZ e0 VA rfl rfl (hb hby d_jdk_42_method_3_4))
  show Win p e below _ s₁ (mkF mt 5 #[.val (.ref a), .val (.ref c)] [(.int (0 : Int32)), (.int (0 : Int32)), (.ref c), (.ref a)])
  refine Win.st ?_ (fun tq kq => XS.aconstNull X0.here hx rfl (hb hby d_jdk_42_method_3_5) kq)
  show Win p e below _ s₁ (mkF mt 6 #[.val (.ref a), .val (.ref c)] [.null, (.int (0 : Int32)), (.int (0 : Int32)), (.ref c), (.ref a)])
  obtain ⟨v34, _, ⟨T34, L34, k34, n34⟩, -, X34, hS34, hgr34, ⟨Lc34, hQ34, l34, y34, z34⟩, st34⟩ := X0.specialBackS hx (y := (⟨"java/lang/String", "<init>", "([CIILjava/lang/Void;)V"⟩ : MethodName)) rfl hown (mvT hZ (hw _ (List.mem_of_getElem? (i := 15) rfl))) (mvT hZ (hw _ (List.mem_of_getElem? (i := 16) rfl))) (mvT hZ (hw _ (List.mem_of_getElem? (i := 18) rfl))) (by decide) (own_backOfSP (s := s) (vm0 := s.vm) (W := 0) (rm_si6_0 l Z a0 hw [] a c h0 n0 Z0 E Fv Fc ga) hZ (hw _ (List.mem_of_getElem? (i := 18) rfl)) (hw _ (List.mem_of_getElem? (i := 10) rfl)) (by decide) (by decide) (own_EW hw) hC) (g := (mkF mt 6 #[.val (.ref a), .val (.ref c)] [.null, (.int (0 : Int32)), (.int (0 : Int32)), (.ref c), (.ref a)])) rfl (by rw [hml]; rfl) (Steps.refl _) (a := a) (argsL := [(.ref c), (.int (0 : Int32)), (.int (0 : Int32)), .null]) (rest := []) (lenOf pd_1 rfl) rfl (by show 2 * 0 + _ ≤ _; exact Nat.le_of_eq rfl) (hb hby d_jdk_42_method_3_6) (fun _ _ => ⟨rfl, e0, (by decide : 0 + 2 ≤ _), (by decide : 0 + 4 ≤ _)⟩)
  dsimp only [Pt.U, Pt.locs, Pt.cells, Pt.slots] at X34 l34 y34 z34 st34 hQ34 hS34
  obtain ⟨X34, hS34, hZ34, hown34⟩ := rebS (s := s) (vm0 := s.vm) (k0 := 0) (n1 := 0) (State.WarmedH.since (State.WarmedH.refl s) 0) (Nat.le_refl 0) X34 hS34 (Nat.zero_le _) hZ hown
  subst y34 z34
  replace X34 : Stand p l e _ (s.setVm T34.vm) mt args below meth cd T34 L34 2 4 := X34
  obtain ⟨h34, e34⟩ : ∃ z, T34.heap = z := ⟨_, rfl⟩
  rw [e34] at hQ34
  have hk34 : T34.heap.size ≤ h34.size := by rw [e34]; exact Nat.le_refl _
  obtain ⟨rfl, Nq34, K34, fc34, tt, kt, fv34, V34⟩ := hQ34
  have N34 : Fr n0 L34 := by rw [l34]; exact Fr.app N0 Nq34
  have f35_22 := E.keep K34
  have Z36 : n0 ≤ h34.size := Nat.le_trans Z0 K34.1
  have K37 : Keep h0 h34 [a] := Keep.trans (Keep.refl h0 [a]) K34 (allS (Or.inl (List.mem_of_getElem? (i := 0) rfl)) all0)
  refine Win.tr ?_ st34
  show Win p e below _ T34 (mkF mt 9 #[.val (.ref a), .val (.ref c)] [])
  exact Win.retVW (s := s) (vm₁ := T34.vm) X34 hS34 hk34 hx hlk e34 hrt (hb hby d_jdk_42_method_3_9) (by decide) (by decide) ⟨rfl, N34, K37, fc34, tt, kt, fv34, V34⟩
theorem d_method_4_0 : decode method_4_code 0 = .ok (.iload_n 0, 1) := by decide +kernel
theorem d_method_4_1 : decode method_4_code 1 = .ok (.ifCond .ne 14, 3) := by decide +kernel
theorem d_method_4_4 : decode method_4_code 4 = .ok (.new 24, 3) := by decide +kernel
theorem d_method_4_7 : decode method_4_code 7 = .ok (.dup, 1) := by decide +kernel
theorem d_method_4_8 : decode method_4_code 8 = .ok (.iconst 0, 1) := by decide +kernel
theorem d_method_4_9 : decode method_4_code 9 = .ok (.newarray .char, 2) := by decide +kernel
theorem d_method_4_11 : decode method_4_code 11 = .ok (.invokespecial 26, 3) := by decide +kernel
theorem pd_2 : parseMethodDescriptor "([C)V" = some ⟨[(.array .char)], none⟩ := by decide +kernel
theorem d_method_4_14 : decode method_4_code 14 = .ok (.areturn, 1) := by decide +kernel
theorem pn_2 : plainName "com/example/foldkey/foldkey/store/TokenHoldsSystemPinLaw" = true := by first | (simp [plainName, overriddenIn]; done) | decide +kernel
theorem ef_make_0 (mt : MethodId) (x0 : Int32) (x1 : Int32) (x2 : Int32) (x3 : Int32) : entryFrame mt #[(.int (0 : Int32)), (.int x0), (.int x1), (.int x2), (.int x3)] 5 = mkF mt 0 #[.val (.int (0 : Int32)), .val (.int x0), .val (.int x1), .val (.int x2), .val (.int x3)] [] := by first | (simp [entryFrame, mkF, argsToLocals, Value.category]; done) | rfl
def Q_make_0 (Z : State) (x0 : Int32) (x1 : Int32) (x2 : Int32) (x3 : Int32) (cs : Int32) (h0 : Heap) (n0 : Nat) (v : Option Value) (h : Heap) (L : List Loc) : Prop := ∃ r : Addr, v = some (.ref r) ∧ Fr n0 L ∧ n0 ≤ h.size ∧ Old Z n0 h ∧ ∃ (t : Addr) (k : ClassId), Exa Z h r "java/lang/String" ∧ Fld Z h r "java/lang/String" "value" "[B" (.ref t) ∧ Fld Z h r "java/lang/String" "coder" "B" (.int (0 : Int32)) ∧ Arv Z h t k .byte (0 : Int32) [] (.int (0 : Int32))
set_option maxRecDepth 65536 in
set_option maxHeartbeats 40000000 in
theorem rm_make_0 (l : Launch) (Z : State) (a0 : Array Value) (hw : ∀ d ∈ tables_1, d.before a0 Z = true) (ws : List Jvm.Cond) (x0 : Int32) (x1 : Int32) (x2 : Int32) (x3 : Int32) (cs : Int32) (h0 : Heap) (n0 : Nat) (Z0 : n0 ≤ h0.size) (S0 : Sta Z Z.heap "java/lang/String" "COMPACT_STRINGS" "Z" (.int cs)) (hcs : ¬ cs = (0 : Int32)) (O : Old Z n0 h0) :
    MetFree l (⟨"com/example/foldkey/foldkey/store/TokenHoldsSystemPinLaw", "make", "(ICCCC)Ljava/lang/String;"⟩ : MethodName) (head1 (Jvm.Cond.code (⟨"com/example/foldkey/foldkey/store/TokenHoldsSystemPinLaw", "make", "(ICCCC)Ljava/lang/String;"⟩ : MethodName) method_4_code 5 (some (.object "java/lang/String")) :: ws) ({ frames := 3, cells := 4, slots := 8, locals := 43 } : Room)) (fun aa UU => aa = #[(.int (0 : Int32)), (.int x0), (.int x1), (.int x2), (.int x3)] ∧ Z.Warmed39 UU.vm ∧ UU.heap = h0 ∧ CHv Z own_EL UU.vm h0) (fun _ _ _ _ _ => True) (fun _ UU oo UU' => ∃ vv LL, oo = .returned vv ∧ Q_make_0 Z x0 x1 x2 x3 cs h0 n0 vv UU'.heap LL ∧ ReturnedEndW UU oo UU' LL ({ frames := 3, cells := 4, slots := 8, locals := 43 } : Room).cells ({ frames := 3, cells := 4, slots := 8, locals := 43 } : Room).slots) := by
  refine MetFree.of_bodySF (plainFor_of_name pn_2) hisR ?_
  intro p e s mt args below meth cd s₁ Bd hml0 hP hK
  obtain ⟨hA, hZ, hh, hC⟩ := hP
  have hx := Bd.exec
  have hby := Bd.bytes
  have hml : cd.maxLocals = 5 := hml0
  have hown : s.vm.findClass "com/example/foldkey/foldkey/store/TokenHoldsSystemPinLaw" = some mt.cls := findClass_of_methodNamed Bd.named
  have hnm := (name_of_methodNamed Bd.named Bd.method).1
  have hlk : meth.locks = false := BodyLoose.notSynchronized Bd
  have hrt := Bd.returns
  have X0 : Stand p l e ({ frames := 3, cells := 4, slots := 8, locals := 43 } : Room) s mt args below meth cd s₁ [] 0 0 := Stand.of_body Bd
  have e0 : s₁.heap = h0 := by rw [← hh, Bd.state]; rfl
  have N0 := Fr.nil n0
  show Win p e below (EndsW s (Q_make_0 Z x0 x1 x2 x3 cs h0 n0) ({ frames := 3, cells := 4, slots := 8, locals := 43 } : Room).cells ({ frames := 3, cells := 4, slots := 8, locals := 43 } : Room).slots) s₁ (entryFrame mt args 5)
  rw [hA, ef_make_0]
  refine Win.st ?_ (fun tq kq => XS.iloadN X0.here hx rfl (hb hby d_method_4_0) rfl kq)
  show Win p e below _ s₁ (mkF mt 1 #[.val (.int (0 : Int32)), .val (.int x0), .val (.int x1), .val (.int x2), .val (.int x3)] [(.int (0 : Int32))])
  refine Win.st ?_ (fun tq kq => XS.ifNo X0.here hx rfl (hb hby d_method_4_1) rfl ((if0 _ _).trans (teq (rfl : (0 : Int32) = (0 : Int32))).2) kq)
  show Win p e below _ s₁ (mkF mt 4 #[.val (.int (0 : Int32)), .val (.int x0), .val (.int x1), .val (.int x2), .val (.int x3)] [])
  obtain ⟨T38, h38, X38, e38, E38, A38, D38, -, st38⟩ := newO X0 hx hZ hown (hw _ (List.mem_of_getElem? (i := 8) rfl)) (hw _ (List.mem_of_getElem? (i := 9) rfl)) (hw _ (List.mem_of_getElem? (i := 10) rfl)) e0 (g := (mkF mt 4 #[.val (.int (0 : Int32)), .val (.int x0), .val (.int x1), .val (.int x2), .val (.int x3)] [])) rfl (hb hby d_method_4_4) (by decide) (by decide)
  obtain ⟨b38, gq38⟩ : ∃ z, z = h0.size := ⟨_, rfl⟩
  rw [← gq38] at A38 D38 st38
  have g39 : n0 ≤ b38 := own_newle Z0 gq38
  have ke38 := own_kext E38
  replace X38 : Stand p l e _ s mt args below meth cd T38 _ 1 4 := X38
  have f40_10 := O.keep ke38 all0
  have f40_11 := CHv.keep ke38 (fun _ q => nomatch q) hC
  have Z41 : n0 ≤ h38.size := Nat.le_trans Z0 ke38.1
  have fn38_value : Fld Z h38 b38 "java/lang/String" "value" "[B" .null := D38 (Or.inr (hw _ (List.mem_of_getElem? (i := 24) rfl))) (ty := (.array .byte)) (by decide)
  have fn38_coder : Fld Z h38 b38 "java/lang/String" "coder" "B" (.int (0 : Int32)) := D38 (Or.inr (hw _ (List.mem_of_getElem? (i := 25) rfl))) (ty := .byte) (by decide)
  refine Win.st ?_ st38
  show Win p e below _ T38 (mkF mt 7 #[.val (.int (0 : Int32)), .val (.int x0), .val (.int x1), .val (.int x2), .val (.int x3)] [(.ref b38)])
  refine Win.st ?_ (fun tq kq => XS.dup X38.here hx rfl (hb hby d_method_4_7) rfl rfl kq)
  show Win p e below _ T38 (mkF mt 8 #[.val (.int (0 : Int32)), .val (.int x0), .val (.int x1), .val (.int x2), .val (.int x3)] [(.ref b38), (.ref b38)])
  refine Win.st ?_ (fun tq kq => XS.iconst X38.here hx rfl (hb hby d_method_4_8) kq)
  show Win p e below _ T38 (mkF mt 9 #[.val (.int (0 : Int32)), .val (.int x0), .val (.int x1), .val (.int x2), .val (.int x3)] [(.int (0 : Int32)), (.ref b38), (.ref b38)])
  obtain ⟨T42, h42, k42, X42, e42, E42, A42, st42⟩ := newP X38 hx hZ (hw _ (List.mem_of_getElem? (i := 11) rfl)) e38 (g := (mkF mt 9 #[.val (.int (0 : Int32)), .val (.int x0), .val (.int x1), .val (.int x2), .val (.int x3)] [(.int (0 : Int32)), (.ref b38), (.ref b38)])) rfl (hb hby d_method_4_9) rfl (by decide) (cap := 0) (by decide) (by decide) (by decide) (by decide)
  obtain ⟨b42, gq42⟩ : ∃ z, z = h38.size := ⟨_, rfl⟩
  rw [← gq42] at A42 st42
  have ne43 : b38 ≠ b42 := own_new gq42 A38.lt
  have g44 : n0 ≤ b42 := own_newle Z41 gq42
  have ke42 := own_kext E42
  replace X42 : Stand p l e _ s mt args below meth cd T42 _ 2 4 := X42
  have f45_28 := f40_10.keep ke42 all0
  have f45_29 := CHv.keep ke42 (fun _ q => nomatch q) f40_11
  have f45_30 := A38.keep ke42
  have f45_31 := fn38_value.keep ke42 nin0
  have f45_32 := fn38_coder.keep ke42 nin0
  have Z46 : n0 ≤ h42.size := Nat.le_trans Z41 ke42.1
  have V42 : Arv Z h42 b42 k42 .char (0 : Int32) [] (.int (0 : Int32)) := (Arv.new A42 (by decide)).pad (pad_rep [] (.int (0 : Int32)) 0)
  refine Win.st ?_ st42
  show Win p e below _ T42 (mkF mt 11 #[.val (.int (0 : Int32)), .val (.int x0), .val (.int x1), .val (.int x2), .val (.int x3)] [(.ref b42), (.ref b38), (.ref b38)])
  obtain ⟨v47, _, ⟨T47, L47, k47, n47⟩, -, X47, hS47, hgr47, ⟨Lc47, hQ47, l47, y47, z47⟩, st47⟩ := X42.specialBackS hx (y := (⟨"java/lang/String", "<init>", "([C)V"⟩ : MethodName)) rfl hown (mvT hZ (hw _ (List.mem_of_getElem? (i := 12) rfl))) (mvT hZ (hw _ (List.mem_of_getElem? (i := 13) rfl))) (mvT hZ (hw _ (List.mem_of_getElem? (i := 14) rfl))) (by decide) (own_backOfSP (s := s) (vm0 := s.vm) (W := 1) (rm_si3_0 l Z a0 hw [] b38 b42 k42 h42 n0 Z46 f45_30 f45_31 f45_32 g39 V42) hZ (hw _ (List.mem_of_getElem? (i := 14) rfl)) (hw _ (List.mem_of_getElem? (i := 10) rfl)) (by decide) (by decide) (own_EW hw) f45_29) (g := (mkF mt 11 #[.val (.int (0 : Int32)), .val (.int x0), .val (.int x1), .val (.int x2), .val (.int x3)] [(.ref b42), (.ref b38), (.ref b38)])) rfl (by rw [hml]; rfl) (Steps.refl _) (a := b38) (argsL := [(.ref b42)]) (rest := [(.ref b38)]) (lenOf pd_2 rfl) rfl (by show 2 * 0 + _ ≤ _; exact Nat.le_of_eq rfl) (hb hby d_method_4_11) (fun _ _ => ⟨rfl, e42, (by decide : 2 + 2 ≤ _), (by decide : 4 + 4 ≤ _)⟩)
  dsimp only [Pt.U, Pt.locs, Pt.cells, Pt.slots] at X47 l47 y47 z47 st47 hQ47 hS47
  obtain ⟨X47, hS47, hZ47, hown47⟩ := rebS (s := s) (vm0 := s.vm) (k0 := 0) (n1 := 0) (State.WarmedH.since (State.WarmedH.refl s) 0) (Nat.le_refl 0) X47 hS47 (Nat.zero_le _) hZ hown
  subst y47 z47
  replace X47 : Stand p l e _ (s.setVm T47.vm) mt args below meth cd T47 L47 4 8 := X47
  obtain ⟨h47, e47⟩ : ∃ z, T47.heap = z := ⟨_, rfl⟩
  rw [e47] at hQ47
  have hk47 : T47.heap.size ≤ h47.size := by rw [e47]; exact Nat.le_refl _
  obtain ⟨rfl, Nq47, K47, fc47, tt, kt, fv47, V47⟩ := hQ47
  have N47 : Fr n0 L47 := by rw [l47]; exact Fr.app N0 Nq47
  have f48_47 := f45_28.keep K47 (allS g39 all0)
  have f48_48 := f45_30.keep K47
  have f48_49 := V42.keep K47 (ninS (Ne.symm ne43) nin0)
  have Z49 : n0 ≤ h47.size := Nat.le_trans Z46 K47.1
  refine Win.tr ?_ st47
  show Win p e below _ T47 (mkF mt 14 #[.val (.int (0 : Int32)), .val (.int x0), .val (.int x1), .val (.int x2), .val (.int x3)] [(.ref b38)])
  exact Win.retRW (s := s) (vm₁ := T47.vm) X47 hS47 hk47 hx hlk e47 hrt rfl rfl rfl (hb hby d_method_4_14) (by decide) (by decide) ⟨_, rfl, N47, Z49, f48_47, tt, kt, f48_48, fv47, fc47, V47⟩
theorem d_jdk_43_method_22_0 : decode jdk_43_method_22_code 0 = .ok (.iload_n 1, 1) := by decide +kernel
theorem d_jdk_43_method_22_1 : decode jdk_43_method_22_code 1 = .ok (.invokestatic 88, 3) := by decide +kernel
theorem pd_3 : parseMethodDescriptor "(I)Z" = some ⟨[.int], some .boolean⟩ := by decide +kernel
theorem d_jdk_43_method_22_4 : decode jdk_43_method_22_code 4 = .ok (.ifCond .ne 5, 3) := by decide +kernel
theorem d_jdk_43_method_22_9 : decode jdk_43_method_22_code 9 = .ok (.iload_n 2, 1) := by decide +kernel
theorem d_jdk_43_method_22_10 : decode jdk_43_method_22_code 10 = .ok (.iconst 0, 1) := by decide +kernel
theorem d_jdk_43_method_22_11 : decode jdk_43_method_22_code 11 = .ok (.invokestatic 92, 3) := by decide +kernel
theorem pd_4 : parseMethodDescriptor "(II)I" = some ⟨[.int, .int], some .int⟩ := by decide +kernel
theorem d_jdk_43_method_22_14 : decode jdk_43_method_22_code 14 = .ok (.istore_n 2, 1) := by decide +kernel
theorem d_jdk_43_method_22_15 : decode jdk_43_method_22_code 15 = .ok (.iload_n 3, 1) := by decide +kernel
theorem d_jdk_43_method_22_16 : decode jdk_43_method_22_code 16 = .ok (.aload_n 0, 1) := by decide +kernel
theorem d_jdk_43_method_22_17 : decode jdk_43_method_22_code 17 = .ok (.arraylength, 1) := by decide +kernel
theorem d_jdk_43_method_22_18 : decode jdk_43_method_22_code 18 = .ok (.invokestatic 38, 3) := by decide +kernel
theorem d_jdk_43_method_22_21 : decode jdk_43_method_22_code 21 = .ok (.istore_n 3, 1) := by decide +kernel
theorem d_jdk_43_method_22_22 : decode jdk_43_method_22_code 22 = .ok (.iload_n 2, 1) := by decide +kernel
theorem d_jdk_43_method_22_23 : decode jdk_43_method_22_code 23 = .ok (.iload_n 3, 1) := by decide +kernel
theorem d_jdk_43_method_22_24 : decode jdk_43_method_22_code 24 = .ok (.if_icmp .lt 5, 3) := by decide +kernel
theorem d_jdk_43_method_22_27 : decode jdk_43_method_22_code 27 = .ok (.iconst (-1), 1) := by decide +kernel
theorem d_jdk_43_method_22_28 : decode jdk_43_method_22_code 28 = .ok (.ireturn, 1) := by decide +kernel
theorem ef_lio_0 (mt : MethodId) (b : Addr) : entryFrame mt #[(.ref b), (.int (124 : Int32)), (.int (0 : Int32)), (.int (0 : Int32))] 4 = mkF mt 0 #[.val (.ref b), .val (.int (124 : Int32)), .val (.int (0 : Int32)), .val (.int (0 : Int32))] [] := by first | (simp [entryFrame, mkF, argsToLocals, Value.category]; done) | rfl
def Q_lio_0 (Z : State) (b : Addr) (kb : ClassId) (h0 : Heap) (n0 : Nat) (v : Option Value) (h : Heap) (L : List Loc) : Prop := ∃ r : Int32, v = some (.int r) ∧ Fr n0 L ∧ h = h0 ∧ (r < 0 ↔ (True))
set_option maxRecDepth 65536 in
set_option maxHeartbeats 40000000 in
theorem rm_lio_0 (l : Launch) (Z : State) (a0 : Array Value) (hw : ∀ d ∈ tables_1, d.before a0 Z = true) (ws : List Jvm.Cond) (b : Addr) (kb : ClassId) (h0 : Heap) (n0 : Nat) (Z0 : n0 ≤ h0.size) (VB : Arv Z h0 b kb .byte (0 : Int32) [] (.int (0 : Int32))) :
    MetFree l (⟨"java/lang/StringLatin1", "indexOf", "([BIII)I"⟩ : MethodName) (head1 (Jvm.Cond.code (⟨"java/lang/StringLatin1", "indexOf", "([BIII)I"⟩ : MethodName) jdk_43_method_22_code 4 (some .int) :: ws) ({ frames := 1, cells := 0, slots := 0, locals := 13 } : Room)) (fun aa UU => aa = #[(.ref b), (.int (124 : Int32)), (.int (0 : Int32)), (.int (0 : Int32))] ∧ Z.Warmed39 UU.vm ∧ UU.heap = h0) (fun _ _ _ _ _ => True) (fun _ UU oo UU' => ∃ vv LL, oo = .returned vv ∧ Q_lio_0 Z b kb h0 n0 vv UU'.heap LL ∧ FrameEnd UU oo UU' LL ({ frames := 1, cells := 0, slots := 0, locals := 13 } : Room).cells ({ frames := 1, cells := 0, slots := 0, locals := 13 } : Room).slots) := by
  refine MetFree.of_bodySF (plainFor_of_name pn_0) hisR ?_
  intro p e s mt args below meth cd s₁ Bd hml0 hP hK
  obtain ⟨hA, hZ, hh⟩ := hP
  have hx := Bd.exec
  have hby := Bd.bytes
  have hml : cd.maxLocals = 4 := hml0
  have hown : s.vm.findClass "java/lang/StringLatin1" = some mt.cls := findClass_of_methodNamed Bd.named
  have hnm := (name_of_methodNamed Bd.named Bd.method).1
  have hlk : meth.locks = false := BodyLoose.notSynchronized Bd
  have hrt := Bd.returns
  have X0 : Stand p l e ({ frames := 1, cells := 0, slots := 0, locals := 13 } : Room) s mt args below meth cd s₁ [] 0 0 := Stand.of_body Bd
  have e0 : s₁.heap = h0 := by rw [← hh, Bd.state]; rfl
  have N0 := Fr.nil n0
  show Win p e below (Ends s (Q_lio_0 Z b kb h0 n0) ({ frames := 1, cells := 0, slots := 0, locals := 13 } : Room).cells ({ frames := 1, cells := 0, slots := 0, locals := 13 } : Room).slots) s₁ (entryFrame mt args 4)
  rw [hA, ef_lio_0]
  refine Win.st ?_ (fun tq kq => XS.iloadN X0.here hx rfl (hb hby d_jdk_43_method_22_0) rfl kq)
  show Win p e below _ s₁ (mkF mt 1 #[.val (.ref b), .val (.int (124 : Int32)), .val (.int (0 : Int32)), .val (.int (0 : Int32))] [(.int (124 : Int32))])
  obtain ⟨v50, _, ⟨T50, L50, k50, n50⟩, -, X50, ⟨Lc50, hQ50, l50, y50, z50⟩, st50⟩ := Jvm.LawKit.callS X0 hx (y := (⟨"java/lang/StringLatin1", "canEncode", "(I)Z"⟩ : MethodName)) hown (mvT hZ (hw _ (List.mem_of_getElem? (i := 64) rfl))) (mvT hZ (hw _ (List.mem_of_getElem? (i := 65) rfl))) (mvT hZ (hw _ (List.mem_of_getElem? (i := 62) rfl))) (mvT hZ (hw _ (List.mem_of_getElem? (i := 66) rfl))) (by decide) (backOf (W := 0) (rm_cei l Z a0 hw [] (124 : Int32) h0 n0 Z0 (by decide) (by decide)) hZ (hw _ (List.mem_of_getElem? (i := 66) rfl)) (hw _ (List.mem_of_getElem? (i := 62) rfl)) (by decide) (by decide)) (g := (mkF mt 1 #[.val (.ref b), .val (.int (124 : Int32)), .val (.int (0 : Int32)), .val (.int (0 : Int32))] [(.int (124 : Int32))])) rfl (by rw [hml]; rfl) (argsL := [(.int (124 : Int32))]) (rest := []) (lenOf pd_3 rfl) rfl (by show 2 * 0 + _ ≤ _; exact Nat.le_of_eq rfl) (hb hby d_jdk_43_method_22_1) (fun _ _ => ⟨rfl, e0, (by decide : 0 + 0 ≤ _), (by decide : 0 + 0 ≤ _)⟩)
  dsimp only [Pt.U, Pt.locs, Pt.cells, Pt.slots] at X50 l50 y50 z50 st50 hQ50
  subst y50 z50
  replace X50 : Stand p l e _ s mt args below meth cd T50 L50 0 0 := X50
  obtain ⟨h50, e50⟩ : ∃ z, T50.heap = z := ⟨_, rfl⟩
  rw [e50] at hQ50
  obtain ⟨rfl, Nq50, eh50⟩ := hQ50
  have N50 : Fr n0 L50 := by rw [l50]; exact Fr.app N0 Nq50
  rw [eh50] at e50
  refine Win.st ?_ st50
  show Win p e below _ T50 (mkF mt 4 #[.val (.ref b), .val (.int (124 : Int32)), .val (.int (0 : Int32)), .val (.int (0 : Int32))] [(.int (1 : Int32))])
  refine Win.st ?_ (fun tq kq => XS.ifYes X50.here hx rfl (pc0 := 4) (pc' := 9) rfl (hb hby d_jdk_43_method_22_4) rfl ((if0 _ _).trans (feq (by decide : ¬ ((1 : Int32) = (0 : Int32)))).2) (by decide) (by decide) kq)
  show Win p e below _ T50 (mkF mt 9 #[.val (.ref b), .val (.int (124 : Int32)), .val (.int (0 : Int32)), .val (.int (0 : Int32))] [])
  refine Win.st ?_ (fun tq kq => XS.iloadN X50.here hx rfl (hb hby d_jdk_43_method_22_9) rfl kq)
  show Win p e below _ T50 (mkF mt 10 #[.val (.ref b), .val (.int (124 : Int32)), .val (.int (0 : Int32)), .val (.int (0 : Int32))] [(.int (0 : Int32))])
  refine Win.st ?_ (fun tq kq => XS.iconst X50.here hx rfl (hb hby d_jdk_43_method_22_10) kq)
  show Win p e below _ T50 (mkF mt 11 #[.val (.ref b), .val (.int (124 : Int32)), .val (.int (0 : Int32)), .val (.int (0 : Int32))] [(.int (0 : Int32)), (.int (0 : Int32))])
  obtain ⟨v51, _, ⟨T51, L51, k51, n51⟩, -, X51, ⟨Lc51, hQ51, l51, y51, z51⟩, st51⟩ := Jvm.LawKit.callS X50 hx (y := (⟨"java/lang/Math", "max", "(II)I"⟩ : MethodName)) hown (mvT hZ (hw _ (List.mem_of_getElem? (i := 67) rfl))) (mvT hZ (hw _ (List.mem_of_getElem? (i := 68) rfl))) (mvT hZ (hw _ (List.mem_of_getElem? (i := 69) rfl))) (mvT hZ (hw _ (List.mem_of_getElem? (i := 70) rfl))) (by decide) (backOf (W := 0) (rm_max l Z a0 hw [] (0 : Int32) (0 : Int32) h0 n0 Z0 ) hZ (hw _ (List.mem_of_getElem? (i := 70) rfl)) (hw _ (List.mem_of_getElem? (i := 69) rfl)) (by decide) (by decide)) (g := (mkF mt 11 #[.val (.ref b), .val (.int (124 : Int32)), .val (.int (0 : Int32)), .val (.int (0 : Int32))] [(.int (0 : Int32)), (.int (0 : Int32))])) rfl (by rw [hml]; rfl) (argsL := [(.int (0 : Int32)), (.int (0 : Int32))]) (rest := []) (lenOf pd_4 rfl) rfl (by show 2 * 0 + _ ≤ _; exact Nat.le_of_eq rfl) (hb hby d_jdk_43_method_22_11) (fun _ _ => ⟨rfl, e50, (by decide : 0 + 0 ≤ _), (by decide : 0 + 0 ≤ _)⟩)
  dsimp only [Pt.U, Pt.locs, Pt.cells, Pt.slots] at X51 l51 y51 z51 st51 hQ51
  subst y51 z51
  replace X51 : Stand p l e _ s mt args below meth cd T51 L51 0 0 := X51
  obtain ⟨h51, e51⟩ : ∃ z, T51.heap = z := ⟨_, rfl⟩
  rw [e51] at hQ51
  obtain ⟨rfl, Nq51, eh51⟩ := hQ51
  have N51 : Fr n0 L51 := by rw [l51]; exact Fr.app N50 Nq51
  rw [eh51] at e51
  rw [show own_max (0 : Int32) (0 : Int32) = (0 : Int32) from by decide] at st51
  refine Win.st ?_ st51
  show Win p e below _ T51 (mkF mt 14 #[.val (.ref b), .val (.int (124 : Int32)), .val (.int (0 : Int32)), .val (.int (0 : Int32))] [(.int (0 : Int32))])
  refine Win.st ?_ (fun tq kq => XS.istoreN X51.here hx rfl (hb hby d_jdk_43_method_22_14) rfl (l' := #[.val (.ref b), .val (.int (124 : Int32)), .val (.int (0 : Int32)), .val (.int (0 : Int32))]) rfl kq)
  show Win p e below _ T51 (mkF mt 15 #[.val (.ref b), .val (.int (124 : Int32)), .val (.int (0 : Int32)), .val (.int (0 : Int32))] [])
  refine Win.st ?_ (fun tq kq => XS.iloadN X51.here hx rfl (hb hby d_jdk_43_method_22_15) rfl kq)
  show Win p e below _ T51 (mkF mt 16 #[.val (.ref b), .val (.int (124 : Int32)), .val (.int (0 : Int32)), .val (.int (0 : Int32))] [(.int (0 : Int32))])
  refine Win.st ?_ (fun tq kq => XS.aloadN X51.here hx rfl (hb hby d_jdk_43_method_22_16) rfl rfl kq)
  show Win p e below _ T51 (mkF mt 17 #[.val (.ref b), .val (.int (124 : Int32)), .val (.int (0 : Int32)), .val (.int (0 : Int32))] [(.ref b), (.int (0 : Int32))])
  refine Win.st ?_ (own_alen (g := (mkF mt 17 #[.val (.ref b), .val (.int (124 : Int32)), .val (.int (0 : Int32)), .val (.int (0 : Int32))] [(.ref b), (.int (0 : Int32))])) X51 hx hZ e51 VB rfl rfl (hb hby d_jdk_43_method_22_17))
  show Win p e below _ T51 (mkF mt 18 #[.val (.ref b), .val (.int (124 : Int32)), .val (.int (0 : Int32)), .val (.int (0 : Int32))] [(.int (0 : Int32)), (.int (0 : Int32))])
  obtain ⟨v52, _, ⟨T52, L52, k52, n52⟩, -, X52, ⟨Lc52, hQ52, l52, y52, z52⟩, st52⟩ := Jvm.LawKit.callS X51 hx (y := (⟨"java/lang/Math", "min", "(II)I"⟩ : MethodName)) hown (mvT hZ (hw _ (List.mem_of_getElem? (i := 71) rfl))) (mvT hZ (hw _ (List.mem_of_getElem? (i := 72) rfl))) (mvT hZ (hw _ (List.mem_of_getElem? (i := 69) rfl))) (mvT hZ (hw _ (List.mem_of_getElem? (i := 73) rfl))) (by decide) (backOf (W := 0) (rm_min l Z a0 hw [] (0 : Int32) (0 : Int32) h0 n0 Z0 ) hZ (hw _ (List.mem_of_getElem? (i := 73) rfl)) (hw _ (List.mem_of_getElem? (i := 69) rfl)) (by decide) (by decide)) (g := (mkF mt 18 #[.val (.ref b), .val (.int (124 : Int32)), .val (.int (0 : Int32)), .val (.int (0 : Int32))] [(.int (0 : Int32)), (.int (0 : Int32))])) rfl (by rw [hml]; rfl) (argsL := [(.int (0 : Int32)), (.int (0 : Int32))]) (rest := []) (lenOf pd_4 rfl) rfl (by show 2 * 0 + _ ≤ _; exact Nat.le_of_eq rfl) (hb hby d_jdk_43_method_22_18) (fun _ _ => ⟨rfl, e51, (by decide : 0 + 0 ≤ _), (by decide : 0 + 0 ≤ _)⟩)
  dsimp only [Pt.U, Pt.locs, Pt.cells, Pt.slots] at X52 l52 y52 z52 st52 hQ52
  subst y52 z52
  replace X52 : Stand p l e _ s mt args below meth cd T52 L52 0 0 := X52
  obtain ⟨h52, e52⟩ : ∃ z, T52.heap = z := ⟨_, rfl⟩
  rw [e52] at hQ52
  obtain ⟨rfl, Nq52, eh52⟩ := hQ52
  have N52 : Fr n0 L52 := by rw [l52]; exact Fr.app N51 Nq52
  rw [eh52] at e52
  rw [show own_min (0 : Int32) (0 : Int32) = (0 : Int32) from by decide] at st52
  refine Win.st ?_ st52
  show Win p e below _ T52 (mkF mt 21 #[.val (.ref b), .val (.int (124 : Int32)), .val (.int (0 : Int32)), .val (.int (0 : Int32))] [(.int (0 : Int32))])
  refine Win.st ?_ (fun tq kq => XS.istoreN X52.here hx rfl (hb hby d_jdk_43_method_22_21) rfl (l' := #[.val (.ref b), .val (.int (124 : Int32)), .val (.int (0 : Int32)), .val (.int (0 : Int32))]) rfl kq)
  show Win p e below _ T52 (mkF mt 22 #[.val (.ref b), .val (.int (124 : Int32)), .val (.int (0 : Int32)), .val (.int (0 : Int32))] [])
  refine Win.st ?_ (fun tq kq => XS.iloadN X52.here hx rfl (hb hby d_jdk_43_method_22_22) rfl kq)
  show Win p e below _ T52 (mkF mt 23 #[.val (.ref b), .val (.int (124 : Int32)), .val (.int (0 : Int32)), .val (.int (0 : Int32))] [(.int (0 : Int32))])
  refine Win.st ?_ (fun tq kq => XS.iloadN X52.here hx rfl (hb hby d_jdk_43_method_22_23) rfl kq)
  show Win p e below _ T52 (mkF mt 24 #[.val (.ref b), .val (.int (124 : Int32)), .val (.int (0 : Int32)), .val (.int (0 : Int32))] [(.int (0 : Int32)), (.int (0 : Int32))])
  refine Win.st ?_ (fun tq kq => XS.icmpNo X52.here hx rfl (hb hby d_jdk_43_method_22_24) rfl (flt (Int32.lt_irrefl)).1 kq)
  show Win p e below _ T52 (mkF mt 27 #[.val (.ref b), .val (.int (124 : Int32)), .val (.int (0 : Int32)), .val (.int (0 : Int32))] [])
  refine Win.st ?_ (fun tq kq => XS.iconst X52.here hx rfl (hb hby d_jdk_43_method_22_27) kq)
  show Win p e below _ T52 (mkF mt 28 #[.val (.ref b), .val (.int (124 : Int32)), .val (.int (0 : Int32)), .val (.int (0 : Int32))] [(.int (-1 : Int32))])
  exact Win.ret X52 hx hlk e52 hrt rfl (Or.inl ⟨rfl, Or.inl rfl, _, rfl⟩) (hb hby d_jdk_43_method_22_28) (by decide) (by decide) ⟨_, rfl, N52, rfl, ⟨fun _ => trivial, fun _ => by decide⟩⟩
theorem d_jdk_42_method_80_0 : decode jdk_42_method_80_code 0 = .ok (.aload_n 0, 1) := by decide +kernel
theorem d_jdk_42_method_80_1 : decode jdk_42_method_80_code 1 = .ok (.invokevirtual 492, 3) := by decide +kernel
theorem pd_5 : parseMethodDescriptor "()Z" = some ⟨[], some .boolean⟩ := by decide +kernel
theorem d_jdk_42_method_80_4 : decode jdk_42_method_80_code 4 = .ok (.ifCond .eq 19, 3) := by decide +kernel
theorem d_jdk_42_method_80_7 : decode jdk_42_method_80_code 7 = .ok (.aload_n 0, 1) := by decide +kernel
theorem d_jdk_42_method_80_8 : decode jdk_42_method_80_code 8 = .ok (.getfield 9, 3) := by decide +kernel
theorem d_jdk_42_method_80_11 : decode jdk_42_method_80_code 11 = .ok (.iload_n 1, 1) := by decide +kernel
theorem d_jdk_42_method_80_12 : decode jdk_42_method_80_code 12 = .ok (.iload_n 2, 1) := by decide +kernel
theorem d_jdk_42_method_80_13 : decode jdk_42_method_80_code 13 = .ok (.aload_n 0, 1) := by decide +kernel
theorem d_jdk_42_method_80_14 : decode jdk_42_method_80_code 14 = .ok (.invokevirtual 505, 3) := by decide +kernel
theorem pd_6 : parseMethodDescriptor "()I" = some ⟨[], some .int⟩ := by decide +kernel
theorem d_jdk_42_method_80_17 : decode jdk_42_method_80_code 17 = .ok (.invokestatic 637, 3) := by decide +kernel
theorem pd_7 : parseMethodDescriptor "([BIII)I" = some ⟨[(.array .byte), .int, .int, .int], some .int⟩ := by decide +kernel
theorem d_jdk_42_method_80_20 : decode jdk_42_method_80_code 20 = .ok (.goto 16, 3) := by decide +kernel
theorem d_jdk_42_method_80_36 : decode jdk_42_method_80_code 36 = .ok (.ireturn, 1) := by decide +kernel
theorem ef_io2_0 (mt : MethodId) (a : Addr) : entryFrame mt #[(.ref a), (.int (124 : Int32)), (.int (0 : Int32))] 3 = mkF mt 0 #[.val (.ref a), .val (.int (124 : Int32)), .val (.int (0 : Int32))] [] := by first | (simp [entryFrame, mkF, argsToLocals, Value.category]; done) | rfl
def Q_io2_0 (Z : State) (a : Addr) (b : Addr) (kb : ClassId) (cs : Int32) (h0 : Heap) (n0 : Nat) (v : Option Value) (h : Heap) (L : List Loc) : Prop := ∃ r : Int32, v = some (.int r) ∧ Fr n0 L ∧ h = h0 ∧ (r < 0 ↔ (True))
set_option maxRecDepth 65536 in
set_option maxHeartbeats 40000000 in
theorem rm_io2_0 (l : Launch) (Z : State) (a0 : Array Value) (hw : ∀ d ∈ tables_1, d.before a0 Z = true) (ws : List Jvm.Cond) (a : Addr) (b : Addr) (kb : ClassId) (cs : Int32) (h0 : Heap) (n0 : Nat) (Z0 : n0 ≤ h0.size) (E : Exa Z h0 a "java/lang/String") (Fv : Fld Z h0 a "java/lang/String" "value" "[B" (.ref b)) (Fc : Fld Z h0 a "java/lang/String" "coder" "B" (.int (0 : Int32))) (VB : Arv Z h0 b kb .byte (0 : Int32) [] (.int (0 : Int32))) (S0 : Sta Z Z.heap "java/lang/String" "COMPACT_STRINGS" "Z" (.int cs)) (hcs : ¬ cs = (0 : Int32)) (O : Old Z n0 h0) :
    MetFree l (⟨"java/lang/String", "indexOf", "(II)I"⟩ : MethodName) (head1 (Jvm.Cond.code (⟨"java/lang/String", "indexOf", "(II)I"⟩ : MethodName) jdk_42_method_80_code 3 (some .int) :: ws) ({ frames := 2, cells := 0, slots := 0, locals := 28 } : Room)) (fun aa UU => aa = #[(.ref a), (.int (124 : Int32)), (.int (0 : Int32))] ∧ Z.Warmed39 UU.vm ∧ UU.heap = h0) (fun _ _ _ _ _ => True) (fun _ UU oo UU' => ∃ vv LL, oo = .returned vv ∧ Q_io2_0 Z a b kb cs h0 n0 vv UU'.heap LL ∧ FrameEnd UU oo UU' LL ({ frames := 2, cells := 0, slots := 0, locals := 28 } : Room).cells ({ frames := 2, cells := 0, slots := 0, locals := 28 } : Room).slots) := by
  refine MetFree.of_bodySF (plainFor_of_name pn_1) hisR ?_
  intro p e s mt args below meth cd s₁ Bd hml0 hP hK
  obtain ⟨hA, hZ, hh⟩ := hP
  have hx := Bd.exec
  have hby := Bd.bytes
  have hml : cd.maxLocals = 3 := hml0
  have hown : s.vm.findClass "java/lang/String" = some mt.cls := findClass_of_methodNamed Bd.named
  have hnm := (name_of_methodNamed Bd.named Bd.method).1
  have hlk : meth.locks = false := BodyLoose.notSynchronized Bd
  have hrt := Bd.returns
  have X0 : Stand p l e ({ frames := 2, cells := 0, slots := 0, locals := 28 } : Room) s mt args below meth cd s₁ [] 0 0 := Stand.of_body Bd
  have e0 : s₁.heap = h0 := by rw [← hh, Bd.state]; rfl
  have N0 := Fr.nil n0
  show Win p e below (Ends s (Q_io2_0 Z a b kb cs h0 n0) ({ frames := 2, cells := 0, slots := 0, locals := 28 } : Room).cells ({ frames := 2, cells := 0, slots := 0, locals := 28 } : Room).slots) s₁ (entryFrame mt args 3)
  rw [hA, ef_io2_0]
  refine Win.st ?_ (fun tq kq => XS.aloadN X0.here hx rfl (hb hby d_jdk_42_method_80_0) rfl rfl kq)
  show Win p e below _ s₁ (mkF mt 1 #[.val (.ref a), .val (.int (124 : Int32)), .val (.int (0 : Int32))] [(.ref a)])
  obtain ⟨cq53, kq53, q53a, q53b, q53c⟩ := isOf hZ e0 E
  obtain ⟨v53, _, ⟨T53, L53, k53, n53⟩, -, X53, ⟨Lc53, hQ53, l53, y53, z53⟩, st53⟩ := X0.virtualBack hx (y := (⟨"java/lang/String", "isLatin1", "()Z"⟩ : MethodName)) (z := (⟨"java/lang/String", "isLatin1", "()Z"⟩ : MethodName)) hown (mvT hZ (hw _ (List.mem_of_getElem? (i := 44) rfl))) (mvT hZ (hw _ (List.mem_of_getElem? (i := 45) rfl))) (notFace_of_selects (args := #[]) (mvT hZ (hw _ (List.mem_of_getElem? (i := 47) rfl)))) (mvT hZ (hw _ (List.mem_of_getElem? (i := 47) rfl))) (mvT hZ (hw _ (List.mem_of_getElem? (i := 46) rfl))) (by decide) (backOf (W := 0) (rm_islatin1 l Z a0 hw [] a cs h0 n0 Z0 Fc S0 hcs O) hZ (hw _ (List.mem_of_getElem? (i := 48) rfl)) (hw _ (List.mem_of_getElem? (i := 10) rfl)) (by decide) (by decide)) q53a q53c (g := (mkF mt 1 #[.val (.ref a), .val (.int (124 : Int32)), .val (.int (0 : Int32))] [(.ref a)])) rfl (by rw [hml]; rfl) (Steps.refl _) (argsL := []) (rest := []) (lenOf pd_5 rfl) rfl (by show 2 * 0 + _ ≤ _; exact Nat.le_of_eq rfl) (hb hby d_jdk_42_method_80_1) (fun _ _ => ⟨rfl, e0, (by decide : 0 + 0 ≤ _), (by decide : 0 + 0 ≤ _)⟩)
  dsimp only [Pt.U, Pt.locs, Pt.cells, Pt.slots] at X53 l53 y53 z53 st53 hQ53
  subst y53 z53
  replace X53 : Stand p l e _ s mt args below meth cd T53 L53 0 0 := X53
  obtain ⟨h53, e53⟩ : ∃ z, T53.heap = z := ⟨_, rfl⟩
  rw [e53] at hQ53
  obtain ⟨rfl, Nq53, eh53⟩ := hQ53
  have N53 : Fr n0 L53 := by rw [l53]; exact Fr.app N0 Nq53
  rw [eh53] at e53
  refine Win.tr ?_ st53
  show Win p e below _ T53 (mkF mt 4 #[.val (.ref a), .val (.int (124 : Int32)), .val (.int (0 : Int32))] [(.int (1 : Int32))])
  refine Win.st ?_ (fun tq kq => XS.ifNo X53.here hx rfl (hb hby d_jdk_42_method_80_4) rfl ((if0 _ _).trans (feq (by decide : ¬ ((1 : Int32) = (0 : Int32)))).1) kq)
  show Win p e below _ T53 (mkF mt 7 #[.val (.ref a), .val (.int (124 : Int32)), .val (.int (0 : Int32))] [])
  refine Win.st ?_ (fun tq kq => XS.aloadN X53.here hx rfl (hb hby d_jdk_42_method_80_7) rfl rfl kq)
  show Win p e below _ T53 (mkF mt 8 #[.val (.ref a), .val (.int (124 : Int32)), .val (.int (0 : Int32))] [(.ref a)])
  obtain ⟨T54, X54, e54, st54⟩ := getF X53 hx hZ hown (host := "") (Or.inl (hw _ (List.mem_of_getElem? (i := 28) rfl))) Via.refl e53 Fv (g := (mkF mt 8 #[.val (.ref a), .val (.int (124 : Int32)), .val (.int (0 : Int32))] [(.ref a)])) rfl rfl (hb hby d_jdk_42_method_80_8)
  refine Win.st ?_ st54
  show Win p e below _ T54 (mkF mt 11 #[.val (.ref a), .val (.int (124 : Int32)), .val (.int (0 : Int32))] [(.ref b)])
  refine Win.st ?_ (fun tq kq => XS.iloadN X54.here hx rfl (hb hby d_jdk_42_method_80_11) rfl kq)
  show Win p e below _ T54 (mkF mt 12 #[.val (.ref a), .val (.int (124 : Int32)), .val (.int (0 : Int32))] [(.int (124 : Int32)), (.ref b)])
  refine Win.st ?_ (fun tq kq => XS.iloadN X54.here hx rfl (hb hby d_jdk_42_method_80_12) rfl kq)
  show Win p e below _ T54 (mkF mt 13 #[.val (.ref a), .val (.int (124 : Int32)), .val (.int (0 : Int32))] [(.int (0 : Int32)), (.int (124 : Int32)), (.ref b)])
  refine Win.st ?_ (fun tq kq => XS.aloadN X54.here hx rfl (hb hby d_jdk_42_method_80_13) rfl rfl kq)
  show Win p e below _ T54 (mkF mt 14 #[.val (.ref a), .val (.int (124 : Int32)), .val (.int (0 : Int32))] [(.ref a), (.int (0 : Int32)), (.int (124 : Int32)), (.ref b)])
  obtain ⟨cq55, kq55, q55a, q55b, q55c⟩ := isOf hZ e54 E
  obtain ⟨v55, _, ⟨T55, L55, k55, n55⟩, -, X55, ⟨Lc55, hQ55, l55, y55, z55⟩, st55⟩ := X54.virtualBack hx (y := (⟨"java/lang/String", "length", "()I"⟩ : MethodName)) (z := (⟨"java/lang/String", "length", "()I"⟩ : MethodName)) hown (mvT hZ (hw _ (List.mem_of_getElem? (i := 50) rfl))) (mvT hZ (hw _ (List.mem_of_getElem? (i := 51) rfl))) (notFace_of_selects (args := #[]) (mvT hZ (hw _ (List.mem_of_getElem? (i := 53) rfl)))) (mvT hZ (hw _ (List.mem_of_getElem? (i := 53) rfl))) (mvT hZ (hw _ (List.mem_of_getElem? (i := 52) rfl))) (by decide) (backOf (W := 3) (rm_slen l Z a0 hw [] a b kb (0 : Int32) [] cs h0 n0 Z0 E Fv Fc VB S0 hcs O) hZ (hw _ (List.mem_of_getElem? (i := 54) rfl)) (hw _ (List.mem_of_getElem? (i := 10) rfl)) (by decide) (by decide)) q55a q55c (g := (mkF mt 14 #[.val (.ref a), .val (.int (124 : Int32)), .val (.int (0 : Int32))] [(.ref a), (.int (0 : Int32)), (.int (124 : Int32)), (.ref b)])) rfl (by rw [hml]; rfl) (Steps.refl _) (argsL := []) (rest := [(.int (0 : Int32)), (.int (124 : Int32)), (.ref b)]) (lenOf pd_6 rfl) rfl (by show 2 * 0 + _ ≤ _; exact Nat.le_of_eq rfl) (hb hby d_jdk_42_method_80_14) (fun _ _ => ⟨rfl, e54, (by decide : 0 + 0 ≤ _), (by decide : 0 + 0 ≤ _)⟩)
  dsimp only [Pt.U, Pt.locs, Pt.cells, Pt.slots] at X55 l55 y55 z55 st55 hQ55
  subst y55 z55
  replace X55 : Stand p l e _ s mt args below meth cd T55 L55 0 0 := X55
  obtain ⟨h55, e55⟩ : ∃ z, T55.heap = z := ⟨_, rfl⟩
  rw [e55] at hQ55
  obtain ⟨rfl, Nq55, eh55⟩ := hQ55
  have N55 : Fr n0 L55 := by rw [l55]; exact Fr.app N53 Nq55
  rw [eh55] at e55
  refine Win.tr ?_ st55
  show Win p e below _ T55 (mkF mt 17 #[.val (.ref a), .val (.int (124 : Int32)), .val (.int (0 : Int32))] [(.int (0 : Int32)), (.int (0 : Int32)), (.int (124 : Int32)), (.ref b)])
  obtain ⟨v56, _, ⟨T56, L56, k56, n56⟩, -, X56, ⟨Lc56, hQ56, l56, y56, z56⟩, st56⟩ := Jvm.LawKit.callS X55 hx (y := (⟨"java/lang/StringLatin1", "indexOf", "([BIII)I"⟩ : MethodName)) hown (mvT hZ (hw _ (List.mem_of_getElem? (i := 60) rfl))) (mvT hZ (hw _ (List.mem_of_getElem? (i := 61) rfl))) (mvT hZ (hw _ (List.mem_of_getElem? (i := 62) rfl))) (mvT hZ (hw _ (List.mem_of_getElem? (i := 63) rfl))) (by decide) (backOf (W := 0) (rm_lio_0 l Z a0 hw [] b kb h0 n0 Z0 VB) hZ (hw _ (List.mem_of_getElem? (i := 63) rfl)) (hw _ (List.mem_of_getElem? (i := 62) rfl)) (by decide) (by decide)) (g := (mkF mt 17 #[.val (.ref a), .val (.int (124 : Int32)), .val (.int (0 : Int32))] [(.int (0 : Int32)), (.int (0 : Int32)), (.int (124 : Int32)), (.ref b)])) rfl (by rw [hml]; rfl) (argsL := [(.ref b), (.int (124 : Int32)), (.int (0 : Int32)), (.int (0 : Int32))]) (rest := []) (lenOf pd_7 rfl) rfl (by show 2 * 0 + _ ≤ _; exact Nat.le_of_eq rfl) (hb hby d_jdk_42_method_80_17) (fun _ _ => ⟨rfl, e55, (by decide : 0 + 0 ≤ _), (by decide : 0 + 0 ≤ _)⟩)
  dsimp only [Pt.U, Pt.locs, Pt.cells, Pt.slots] at X56 l56 y56 z56 st56 hQ56
  subst y56 z56
  replace X56 : Stand p l e _ s mt args below meth cd T56 L56 0 0 := X56
  obtain ⟨h56, e56⟩ : ∃ z, T56.heap = z := ⟨_, rfl⟩
  rw [e56] at hQ56
  obtain ⟨rr, rfl, Nq56, eh56, hr⟩ := hQ56
  have N56 : Fr n0 L56 := by rw [l56]; exact Fr.app N55 Nq56
  rw [eh56] at e56
  refine Win.st ?_ st56
  show Win p e below _ T56 (mkF mt 20 #[.val (.ref a), .val (.int (124 : Int32)), .val (.int (0 : Int32))] [(.int rr)])
  refine Win.st ?_ (fun tq kq => XS.goto X56.here hx rfl (pc0 := 20) (pc' := 36) rfl (hb hby d_jdk_42_method_80_20) (by decide) (by decide) kq)
  show Win p e below _ T56 (mkF mt 36 #[.val (.ref a), .val (.int (124 : Int32)), .val (.int (0 : Int32))] [(.int rr)])
  exact Win.ret X56 hx hlk e56 hrt rfl (Or.inl ⟨rfl, Or.inl rfl, _, rfl⟩) (hb hby d_jdk_42_method_80_36) (by decide) (by decide) ⟨_, rfl, N56, rfl, hr⟩
theorem d_jdk_42_method_79_0 : decode jdk_42_method_79_code 0 = .ok (.aload_n 0, 1) := by decide +kernel
theorem d_jdk_42_method_79_1 : decode jdk_42_method_79_code 1 = .ok (.iload_n 1, 1) := by decide +kernel
theorem d_jdk_42_method_79_2 : decode jdk_42_method_79_code 2 = .ok (.iconst 0, 1) := by decide +kernel
theorem d_jdk_42_method_79_3 : decode jdk_42_method_79_code 3 = .ok (.invokevirtual 633, 3) := by decide +kernel
theorem d_jdk_42_method_79_6 : decode jdk_42_method_79_code 6 = .ok (.ireturn, 1) := by decide +kernel
theorem ef_io1_0 (mt : MethodId) (a : Addr) : entryFrame mt #[(.ref a), (.int (124 : Int32))] 2 = mkF mt 0 #[.val (.ref a), .val (.int (124 : Int32))] [] := by first | (simp [entryFrame, mkF, argsToLocals, Value.category]; done) | rfl
def Q_io1_0 (Z : State) (a : Addr) (b : Addr) (kb : ClassId) (cs : Int32) (h0 : Heap) (n0 : Nat) (v : Option Value) (h : Heap) (L : List Loc) : Prop := ∃ r : Int32, v = some (.int r) ∧ Fr n0 L ∧ h = h0 ∧ (r < 0 ↔ (True))
set_option maxRecDepth 65536 in
set_option maxHeartbeats 40000000 in
theorem rm_io1_0 (l : Launch) (Z : State) (a0 : Array Value) (hw : ∀ d ∈ tables_1, d.before a0 Z = true) (ws : List Jvm.Cond) (a : Addr) (b : Addr) (kb : ClassId) (cs : Int32) (h0 : Heap) (n0 : Nat) (Z0 : n0 ≤ h0.size) (E : Exa Z h0 a "java/lang/String") (Fv : Fld Z h0 a "java/lang/String" "value" "[B" (.ref b)) (Fc : Fld Z h0 a "java/lang/String" "coder" "B" (.int (0 : Int32))) (VB : Arv Z h0 b kb .byte (0 : Int32) [] (.int (0 : Int32))) (S0 : Sta Z Z.heap "java/lang/String" "COMPACT_STRINGS" "Z" (.int cs)) (hcs : ¬ cs = (0 : Int32)) (O : Old Z n0 h0) :
    MetFree l (⟨"java/lang/String", "indexOf", "(I)I"⟩ : MethodName) (head1 (Jvm.Cond.code (⟨"java/lang/String", "indexOf", "(I)I"⟩ : MethodName) jdk_42_method_79_code 2 (some .int) :: ws) ({ frames := 3, cells := 0, slots := 0, locals := 42 } : Room)) (fun aa UU => aa = #[(.ref a), (.int (124 : Int32))] ∧ Z.Warmed39 UU.vm ∧ UU.heap = h0) (fun _ _ _ _ _ => True) (fun _ UU oo UU' => ∃ vv LL, oo = .returned vv ∧ Q_io1_0 Z a b kb cs h0 n0 vv UU'.heap LL ∧ FrameEnd UU oo UU' LL ({ frames := 3, cells := 0, slots := 0, locals := 42 } : Room).cells ({ frames := 3, cells := 0, slots := 0, locals := 42 } : Room).slots) := by
  refine MetFree.of_bodySF (plainFor_of_name pn_1) hisR ?_
  intro p e s mt args below meth cd s₁ Bd hml0 hP hK
  obtain ⟨hA, hZ, hh⟩ := hP
  have hx := Bd.exec
  have hby := Bd.bytes
  have hml : cd.maxLocals = 2 := hml0
  have hown : s.vm.findClass "java/lang/String" = some mt.cls := findClass_of_methodNamed Bd.named
  have hnm := (name_of_methodNamed Bd.named Bd.method).1
  have hlk : meth.locks = false := BodyLoose.notSynchronized Bd
  have hrt := Bd.returns
  have X0 : Stand p l e ({ frames := 3, cells := 0, slots := 0, locals := 42 } : Room) s mt args below meth cd s₁ [] 0 0 := Stand.of_body Bd
  have e0 : s₁.heap = h0 := by rw [← hh, Bd.state]; rfl
  have N0 := Fr.nil n0
  show Win p e below (Ends s (Q_io1_0 Z a b kb cs h0 n0) ({ frames := 3, cells := 0, slots := 0, locals := 42 } : Room).cells ({ frames := 3, cells := 0, slots := 0, locals := 42 } : Room).slots) s₁ (entryFrame mt args 2)
  rw [hA, ef_io1_0]
  refine Win.st ?_ (fun tq kq => XS.aloadN X0.here hx rfl (hb hby d_jdk_42_method_79_0) rfl rfl kq)
  show Win p e below _ s₁ (mkF mt 1 #[.val (.ref a), .val (.int (124 : Int32))] [(.ref a)])
  refine Win.st ?_ (fun tq kq => XS.iloadN X0.here hx rfl (hb hby d_jdk_42_method_79_1) rfl kq)
  show Win p e below _ s₁ (mkF mt 2 #[.val (.ref a), .val (.int (124 : Int32))] [(.int (124 : Int32)), (.ref a)])
  refine Win.st ?_ (fun tq kq => XS.iconst X0.here hx rfl (hb hby d_jdk_42_method_79_2) kq)
  show Win p e below _ s₁ (mkF mt 3 #[.val (.ref a), .val (.int (124 : Int32))] [(.int (0 : Int32)), (.int (124 : Int32)), (.ref a)])
  obtain ⟨cq57, kq57, q57a, q57b, q57c⟩ := isOf hZ e0 E
  obtain ⟨v57, _, ⟨T57, L57, k57, n57⟩, -, X57, ⟨Lc57, hQ57, l57, y57, z57⟩, st57⟩ := X0.virtualBack hx (y := (⟨"java/lang/String", "indexOf", "(II)I"⟩ : MethodName)) (z := (⟨"java/lang/String", "indexOf", "(II)I"⟩ : MethodName)) hown (mvT hZ (hw _ (List.mem_of_getElem? (i := 39) rfl))) (mvT hZ (hw _ (List.mem_of_getElem? (i := 40) rfl))) (notFace_of_selects (args := #[]) (mvT hZ (hw _ (List.mem_of_getElem? (i := 42) rfl)))) (mvT hZ (hw _ (List.mem_of_getElem? (i := 42) rfl))) (mvT hZ (hw _ (List.mem_of_getElem? (i := 41) rfl))) (by decide) (backOf (W := 0) (rm_io2_0 l Z a0 hw [] a b kb cs h0 n0 Z0 E Fv Fc VB S0 hcs O) hZ (hw _ (List.mem_of_getElem? (i := 43) rfl)) (hw _ (List.mem_of_getElem? (i := 10) rfl)) (by decide) (by decide)) q57a q57c (g := (mkF mt 3 #[.val (.ref a), .val (.int (124 : Int32))] [(.int (0 : Int32)), (.int (124 : Int32)), (.ref a)])) rfl (by rw [hml]; rfl) (Steps.refl _) (argsL := [(.int (124 : Int32)), (.int (0 : Int32))]) (rest := []) (lenOf pd_4 rfl) rfl (by show 2 * 0 + _ ≤ _; exact Nat.le_of_eq rfl) (hb hby d_jdk_42_method_79_3) (fun _ _ => ⟨rfl, e0, (by decide : 0 + 0 ≤ _), (by decide : 0 + 0 ≤ _)⟩)
  dsimp only [Pt.U, Pt.locs, Pt.cells, Pt.slots] at X57 l57 y57 z57 st57 hQ57
  subst y57 z57
  replace X57 : Stand p l e _ s mt args below meth cd T57 L57 0 0 := X57
  obtain ⟨h57, e57⟩ : ∃ z, T57.heap = z := ⟨_, rfl⟩
  rw [e57] at hQ57
  obtain ⟨rr, rfl, Nq57, eh57, hr⟩ := hQ57
  have N57 : Fr n0 L57 := by rw [l57]; exact Fr.app N0 Nq57
  rw [eh57] at e57
  refine Win.tr ?_ st57
  show Win p e below _ T57 (mkF mt 6 #[.val (.ref a), .val (.int (124 : Int32))] [(.int rr)])
  exact Win.ret X57 hx hlk e57 hrt rfl (Or.inl ⟨rfl, Or.inl rfl, _, rfl⟩) (hb hby d_jdk_42_method_79_6) (by decide) (by decide) ⟨_, rfl, N57, rfl, hr⟩
theorem d_prog_39_method_3_0 : decode prog_39_method_3_code 0 = .ok (.aload_n 0, 1) := by decide +kernel
theorem d_prog_39_method_3_1 : decode prog_39_method_3_code 1 = .ok (.bipush 124, 2) := by decide +kernel
theorem d_prog_39_method_3_3 : decode prog_39_method_3_code 3 = .ok (.invokevirtual 9, 3) := by decide +kernel
theorem pd_8 : parseMethodDescriptor "(I)I" = some ⟨[.int], some .int⟩ := by decide +kernel
theorem d_prog_39_method_3_6 : decode prog_39_method_3_code 6 = .ok (.ifCond .ge 7, 3) := by decide +kernel
theorem d_prog_39_method_3_9 : decode prog_39_method_3_code 9 = .ok (.iconst 1, 1) := by decide +kernel
theorem d_prog_39_method_3_10 : decode prog_39_method_3_code 10 = .ok (.goto 4, 3) := by decide +kernel
theorem d_prog_39_method_3_14 : decode prog_39_method_3_code 14 = .ok (.ireturn, 1) := by decide +kernel
theorem d_prog_39_method_3_13 : decode prog_39_method_3_code 13 = .ok (.iconst 0, 1) := by decide +kernel
theorem pn_3 : plainName "com/example/foldkey/foldkey/store/Token" = true := by first | (simp [plainName, overriddenIn]; done) | decide +kernel
theorem ef_hsy_0 (mt : MethodId) (a : Addr) : entryFrame mt #[(.ref a)] 1 = mkF mt 0 #[.val (.ref a)] [] := by first | (simp [entryFrame, mkF, argsToLocals, Value.category]; done) | rfl
def Q_hsy_0 (Z : State) (a : Addr) (b : Addr) (kb : ClassId) (cs : Int32) (h0 : Heap) (n0 : Nat) (v : Option Value) (h : Heap) (L : List Loc) : Prop := ∃ r : Int32, v = some (.int r) ∧ Fr n0 L ∧ h = h0 ∧ ((True) → r = 1) ∧ (¬ (True) → r = 0)
set_option maxRecDepth 65536 in
set_option maxHeartbeats 40000000 in
theorem rm_hsy_0 (l : Launch) (Z : State) (a0 : Array Value) (hw : ∀ d ∈ tables_1, d.before a0 Z = true) (ws : List Jvm.Cond) (a : Addr) (b : Addr) (kb : ClassId) (cs : Int32) (h0 : Heap) (n0 : Nat) (Z0 : n0 ≤ h0.size) (E : Exa Z h0 a "java/lang/String") (Fv : Fld Z h0 a "java/lang/String" "value" "[B" (.ref b)) (Fc : Fld Z h0 a "java/lang/String" "coder" "B" (.int (0 : Int32))) (VB : Arv Z h0 b kb .byte (0 : Int32) [] (.int (0 : Int32))) (S0 : Sta Z Z.heap "java/lang/String" "COMPACT_STRINGS" "Z" (.int cs)) (hcs : ¬ cs = (0 : Int32)) (O : Old Z n0 h0) :
    MetFree l (⟨"com/example/foldkey/foldkey/store/Token", "holdsSystem", "(Ljava/lang/String;)Z"⟩ : MethodName) (head1 (Jvm.Cond.code (⟨"com/example/foldkey/foldkey/store/Token", "holdsSystem", "(Ljava/lang/String;)Z"⟩ : MethodName) prog_39_method_3_code 1 (some .boolean) :: ws) ({ frames := 4, cells := 0, slots := 0, locals := 55 } : Room)) (fun aa UU => aa = #[(.ref a)] ∧ Z.Warmed39 UU.vm ∧ UU.heap = h0) (fun _ _ _ _ _ => True) (fun _ UU oo UU' => ∃ vv LL, oo = .returned vv ∧ Q_hsy_0 Z a b kb cs h0 n0 vv UU'.heap LL ∧ FrameEnd UU oo UU' LL ({ frames := 4, cells := 0, slots := 0, locals := 55 } : Room).cells ({ frames := 4, cells := 0, slots := 0, locals := 55 } : Room).slots) := by
  refine MetFree.of_bodySF (plainFor_of_name pn_3) hisR ?_
  intro p e s mt args below meth cd s₁ Bd hml0 hP hK
  obtain ⟨hA, hZ, hh⟩ := hP
  have hx := Bd.exec
  have hby := Bd.bytes
  have hml : cd.maxLocals = 1 := hml0
  have hown : s.vm.findClass "com/example/foldkey/foldkey/store/Token" = some mt.cls := findClass_of_methodNamed Bd.named
  have hnm := (name_of_methodNamed Bd.named Bd.method).1
  have hlk : meth.locks = false := BodyLoose.notSynchronized Bd
  have hrt := Bd.returns
  have X0 : Stand p l e ({ frames := 4, cells := 0, slots := 0, locals := 55 } : Room) s mt args below meth cd s₁ [] 0 0 := Stand.of_body Bd
  have e0 : s₁.heap = h0 := by rw [← hh, Bd.state]; rfl
  have N0 := Fr.nil n0
  show Win p e below (Ends s (Q_hsy_0 Z a b kb cs h0 n0) ({ frames := 4, cells := 0, slots := 0, locals := 55 } : Room).cells ({ frames := 4, cells := 0, slots := 0, locals := 55 } : Room).slots) s₁ (entryFrame mt args 1)
  rw [hA, ef_hsy_0]
  refine Win.st ?_ (fun tq kq => XS.aloadN X0.here hx rfl (hb hby d_prog_39_method_3_0) rfl rfl kq)
  show Win p e below _ s₁ (mkF mt 1 #[.val (.ref a)] [(.ref a)])
  refine Win.st ?_ (fun tq kq => XS.bipush X0.here hx rfl (hb hby d_prog_39_method_3_1) kq)
  show Win p e below _ s₁ (mkF mt 3 #[.val (.ref a)] [(.int (124 : Int32)), (.ref a)])
  obtain ⟨cq58, kq58, q58a, q58b, q58c⟩ := isOf hZ e0 E
  obtain ⟨v58, _, ⟨T58, L58, k58, n58⟩, -, X58, ⟨Lc58, hQ58, l58, y58, z58⟩, st58⟩ := X0.virtualBack hx (y := (⟨"java/lang/String", "indexOf", "(I)I"⟩ : MethodName)) (z := (⟨"java/lang/String", "indexOf", "(I)I"⟩ : MethodName)) hown (mvT hZ (hw _ (List.mem_of_getElem? (i := 34) rfl))) (mvT hZ (hw _ (List.mem_of_getElem? (i := 35) rfl))) (notFace_of_selects (args := #[]) (mvT hZ (hw _ (List.mem_of_getElem? (i := 37) rfl)))) (mvT hZ (hw _ (List.mem_of_getElem? (i := 37) rfl))) (mvT hZ (hw _ (List.mem_of_getElem? (i := 36) rfl))) (by decide) (backOf (W := 0) (rm_io1_0 l Z a0 hw [] a b kb cs h0 n0 Z0 E Fv Fc VB S0 hcs O) hZ (hw _ (List.mem_of_getElem? (i := 38) rfl)) (hw _ (List.mem_of_getElem? (i := 10) rfl)) (by decide) (by decide)) q58a q58c (g := (mkF mt 3 #[.val (.ref a)] [(.int (124 : Int32)), (.ref a)])) rfl (by rw [hml]; rfl) (Steps.refl _) (argsL := [(.int (124 : Int32))]) (rest := []) (lenOf pd_8 rfl) rfl (by show 2 * 0 + _ ≤ _; exact Nat.le_of_eq rfl) (hb hby d_prog_39_method_3_3) (fun _ _ => ⟨rfl, e0, (by decide : 0 + 0 ≤ _), (by decide : 0 + 0 ≤ _)⟩)
  dsimp only [Pt.U, Pt.locs, Pt.cells, Pt.slots] at X58 l58 y58 z58 st58 hQ58
  subst y58 z58
  replace X58 : Stand p l e _ s mt args below meth cd T58 L58 0 0 := X58
  obtain ⟨h58, e58⟩ : ∃ z, T58.heap = z := ⟨_, rfl⟩
  rw [e58] at hQ58
  obtain ⟨rr, rfl, Nq58, eh58, hr⟩ := hQ58
  have N58 : Fr n0 L58 := by rw [l58]; exact Fr.app N0 Nq58
  rw [eh58] at e58
  refine Win.tr ?_ st58
  show Win p e below _ T58 (mkF mt 6 #[.val (.ref a)] [(.int rr)])
  by_cases hc6 : rr < (0 : Int32)
  · refine Win.st ?_ (fun tq kq => XS.ifNo X58.here hx rfl (hb hby d_prog_39_method_3_6) rfl ((if0 _ _).trans (tlt hc6).2.1) kq)
    show Win p e below _ T58 (mkF mt 9 #[.val (.ref a)] [])
    refine Win.st ?_ (fun tq kq => XS.iconst X58.here hx rfl (hb hby d_prog_39_method_3_9) kq)
    show Win p e below _ T58 (mkF mt 10 #[.val (.ref a)] [(.int (1 : Int32))])
    refine Win.st ?_ (fun tq kq => XS.goto X58.here hx rfl (pc0 := 10) (pc' := 14) rfl (hb hby d_prog_39_method_3_10) (by decide) (by decide) kq)
    show Win p e below _ T58 (mkF mt 14 #[.val (.ref a)] [(.int (1 : Int32))])
    exact Win.retN X58 hx hlk e58 (t := .boolean) (z' := (1 : Int32)) hrt (by simp) (hb hby d_prog_39_method_3_14) (by decide) (by decide) rfl ⟨_, rfl, N58, rfl, fun _ => rfl, fun q => absurd (hr.mp hc6) q⟩
  · refine Win.st ?_ (fun tq kq => XS.ifYes X58.here hx rfl (pc0 := 6) (pc' := 13) rfl (hb hby d_prog_39_method_3_6) rfl ((if0 _ _).trans (flt hc6).2.1) (by decide) (by decide) kq)
    show Win p e below _ T58 (mkF mt 13 #[.val (.ref a)] [])
    refine Win.st ?_ (fun tq kq => XS.iconst X58.here hx rfl (hb hby d_prog_39_method_3_13) kq)
    show Win p e below _ T58 (mkF mt 14 #[.val (.ref a)] [(.int (0 : Int32))])
    exact Win.retN X58 hx hlk e58 (t := .boolean) (z' := (0 : Int32)) hrt (by simp) (hb hby d_prog_39_method_3_14) (by decide) (by decide) rfl ⟨_, rfl, N58, rfl, fun q => absurd (hr.mpr q) hc6, fun _ => rfl⟩
theorem d_jdk_52_method_21_0 : decode jdk_52_method_21_code 0 = .ok (.iconst 0, 1) := by decide +kernel
theorem d_jdk_52_method_21_1 : decode jdk_52_method_21_code 1 = .ok (.istore 5, 2) := by decide +kernel
theorem d_jdk_52_method_21_3 : decode jdk_52_method_21_code 3 = .ok (.iload 5, 2) := by decide +kernel
theorem d_jdk_52_method_21_5 : decode jdk_52_method_21_code 5 = .ok (.iload 4, 2) := by decide +kernel
theorem d_jdk_52_method_21_7 : decode jdk_52_method_21_code 7 = .ok (.if_icmp .ge 37, 3) := by decide +kernel
theorem d_jdk_52_method_21_10 : decode jdk_52_method_21_code 10 = .ok (.aload_n 0, 1) := by decide +kernel
theorem d_jdk_52_method_21_11 : decode jdk_52_method_21_code 11 = .ok (.iload_n 1, 1) := by decide +kernel
theorem d_jdk_52_method_21_12 : decode jdk_52_method_21_code 12 = .ok (.caload, 1) := by decide +kernel
theorem d_jdk_52_method_21_13 : decode jdk_52_method_21_code 13 = .ok (.istore 6, 2) := by decide +kernel
theorem d_jdk_52_method_21_15 : decode jdk_52_method_21_code 15 = .ok (.iload 6, 2) := by decide +kernel
theorem d_jdk_52_method_21_17 : decode jdk_52_method_21_code 17 = .ok (.sipush 255, 3) := by decide +kernel
theorem d_jdk_52_method_21_20 : decode jdk_52_method_21_code 20 = .ok (.if_icmp .le 6, 3) := by decide +kernel
theorem d_jdk_52_method_21_26 : decode jdk_52_method_21_code 26 = .ok (.aload_n 2, 1) := by decide +kernel
theorem d_jdk_52_method_21_27 : decode jdk_52_method_21_code 27 = .ok (.iload_n 3, 1) := by decide +kernel
theorem d_jdk_52_method_21_28 : decode jdk_52_method_21_code 28 = .ok (.iload 6, 2) := by decide +kernel
theorem d_jdk_52_method_21_30 : decode jdk_52_method_21_code 30 = .ok (.i2b, 1) := by decide +kernel
theorem d_jdk_52_method_21_31 : decode jdk_52_method_21_code 31 = .ok (.bastore, 1) := by decide +kernel
theorem d_jdk_52_method_21_32 : decode jdk_52_method_21_code 32 = .ok (.iinc 1 1, 3) := by decide +kernel
theorem d_jdk_52_method_21_35 : decode jdk_52_method_21_code 35 = .ok (.iinc 3 1, 3) := by decide +kernel
theorem d_jdk_52_method_21_38 : decode jdk_52_method_21_code 38 = .ok (.iinc 5 1, 3) := by decide +kernel
theorem d_jdk_52_method_21_41 : decode jdk_52_method_21_code 41 = .ok (.goto (-38), 3) := by decide +kernel
theorem d_jdk_52_method_21_44 : decode jdk_52_method_21_code 44 = .ok (.iload 4, 2) := by decide +kernel
theorem d_jdk_52_method_21_46 : decode jdk_52_method_21_code 46 = .ok (.ireturn, 1) := by decide +kernel
theorem pn_4 : plainName "java/lang/StringUTF16" = true := by first | (simp [plainName, overriddenIn]; done) | decide +kernel
theorem ef_cmp5_1 (mt : MethodId) (a : Addr) (b : Addr) : entryFrame mt #[(.ref a), (.int (0 : Int32)), (.ref b), (.int (0 : Int32)), (.int (1 : Int32))] 7 = mkF mt 0 #[.val (.ref a), .val (.int (0 : Int32)), .val (.ref b), .val (.int (0 : Int32)), .val (.int (1 : Int32)), .unset, .unset] [] := by first | (simp [entryFrame, mkF, argsToLocals, Value.category]; done) | rfl
def Q_cmp5_1 (Z : State) (a : Addr) (b : Addr) (ka : ClassId) (kb : ClassId) (x0 : Int32) (h0 : Heap) (n0 : Nat) (v : Option Value) (h : Heap) (L : List Loc) : Prop := v = some (.int (1 : Int32)) ∧ Fr n0 L ∧ Keep h0 h [b] ∧ Arv Z h b kb .byte (1 : Int32) [(.int (x0.toInt8.toInt32))] (.int (0 : Int32))
set_option maxRecDepth 65536 in
set_option maxHeartbeats 40000000 in
theorem rm_cmp5_1 (l : Launch) (Z : State) (a0 : Array Value) (hw : ∀ d ∈ tables_1, d.before a0 Z = true) (ws : List Jvm.Cond) (a : Addr) (b : Addr) (ka : ClassId) (kb : ClassId) (x0 : Int32) (h0 : Heap) (n0 : Nat) (Z0 : n0 ≤ h0.size) (VA : Arv Z h0 a ka .char (1 : Int32) [(.int x0)] (.int (0 : Int32))) (VB : Arv Z h0 b kb .byte (1 : Int32) [(.int (0 : Int32))] (.int (0 : Int32))) (gb : n0 ≤ b) (nab : a ≠ b) (hp0 : own_B x0) :
    MetFree l (⟨"java/lang/StringUTF16", "compress", "([CI[BII)I"⟩ : MethodName) (head1 (Jvm.Cond.code (⟨"java/lang/StringUTF16", "compress", "([CI[BII)I"⟩ : MethodName) jdk_52_method_21_code 7 (some .int) :: ws) ({ frames := 0, cells := 0, slots := 0, locals := 0 } : Room)) (fun aa UU => aa = #[(.ref a), (.int (0 : Int32)), (.ref b), (.int (0 : Int32)), (.int (1 : Int32))] ∧ Z.Warmed39 UU.vm ∧ UU.heap = h0) (fun _ _ _ _ _ => True) (fun _ UU oo UU' => ∃ vv LL, oo = .returned vv ∧ Q_cmp5_1 Z a b ka kb x0 h0 n0 vv UU'.heap LL ∧ FrameEnd UU oo UU' LL ({ frames := 0, cells := 0, slots := 0, locals := 0 } : Room).cells ({ frames := 0, cells := 0, slots := 0, locals := 0 } : Room).slots) := by
  refine MetFree.of_bodySF (plainFor_of_name pn_4) hisR ?_
  intro p e s mt args below meth cd s₁ Bd hml0 hP hK
  obtain ⟨hA, hZ, hh⟩ := hP
  have hx := Bd.exec
  have hby := Bd.bytes
  have hml : cd.maxLocals = 7 := hml0
  have hown : s.vm.findClass "java/lang/StringUTF16" = some mt.cls := findClass_of_methodNamed Bd.named
  have hnm := (name_of_methodNamed Bd.named Bd.method).1
  have hlk : meth.locks = false := BodyLoose.notSynchronized Bd
  have hrt := Bd.returns
  have X0 : Stand p l e ({ frames := 0, cells := 0, slots := 0, locals := 0 } : Room) s mt args below meth cd s₁ [] 0 0 := Stand.of_body Bd
  have e0 : s₁.heap = h0 := by rw [← hh, Bd.state]; rfl
  have N0 := Fr.nil n0
  show Win p e below (Ends s (Q_cmp5_1 Z a b ka kb x0 h0 n0) ({ frames := 0, cells := 0, slots := 0, locals := 0 } : Room).cells ({ frames := 0, cells := 0, slots := 0, locals := 0 } : Room).slots) s₁ (entryFrame mt args 7)
  rw [hA, ef_cmp5_1]
  refine Win.st ?_ (fun tq kq => XS.iconst X0.here hx rfl (hb hby d_jdk_52_method_21_0) kq)
  show Win p e below _ s₁ (mkF mt 1 #[.val (.ref a), .val (.int (0 : Int32)), .val (.ref b), .val (.int (0 : Int32)), .val (.int (1 : Int32)), .unset, .unset] [(.int (0 : Int32))])
  refine Win.st ?_ (fun tq kq => XS.istore X0.here hx rfl (hb hby d_jdk_52_method_21_1) rfl (l' := #[.val (.ref a), .val (.int (0 : Int32)), .val (.ref b), .val (.int (0 : Int32)), .val (.int (1 : Int32)), .val (.int (0 : Int32)), .unset]) rfl kq)
  show Win p e below _ s₁ (mkF mt 3 #[.val (.ref a), .val (.int (0 : Int32)), .val (.ref b), .val (.int (0 : Int32)), .val (.int (1 : Int32)), .val (.int (0 : Int32)), .unset] [])
  refine Win.st ?_ (fun tq kq => XS.iload X0.here hx rfl (hb hby d_jdk_52_method_21_3) rfl kq)
  show Win p e below _ s₁ (mkF mt 5 #[.val (.ref a), .val (.int (0 : Int32)), .val (.ref b), .val (.int (0 : Int32)), .val (.int (1 : Int32)), .val (.int (0 : Int32)), .unset] [(.int (0 : Int32))])
  refine Win.st ?_ (fun tq kq => XS.iload X0.here hx rfl (hb hby d_jdk_52_method_21_5) rfl kq)
  show Win p e below _ s₁ (mkF mt 7 #[.val (.ref a), .val (.int (0 : Int32)), .val (.ref b), .val (.int (0 : Int32)), .val (.int (1 : Int32)), .val (.int (0 : Int32)), .unset] [(.int (1 : Int32)), (.int (0 : Int32))])
  refine Win.st ?_ (fun tq kq => XS.icmpNo X0.here hx rfl (hb hby d_jdk_52_method_21_7) rfl (tlt (by decide : (0 : Int32) < (1 : Int32))).2.1 kq)
  show Win p e below _ s₁ (mkF mt 10 #[.val (.ref a), .val (.int (0 : Int32)), .val (.ref b), .val (.int (0 : Int32)), .val (.int (1 : Int32)), .val (.int (0 : Int32)), .unset] [])
  refine Win.st ?_ (fun tq kq => XS.aloadN X0.here hx rfl (hb hby d_jdk_52_method_21_10) rfl rfl kq)
  show Win p e below _ s₁ (mkF mt 11 #[.val (.ref a), .val (.int (0 : Int32)), .val (.ref b), .val (.int (0 : Int32)), .val (.int (1 : Int32)), .val (.int (0 : Int32)), .unset] [(.ref a)])
  refine Win.st ?_ (fun tq kq => XS.iloadN X0.here hx rfl (hb hby d_jdk_52_method_21_11) rfl kq)
  show Win p e below _ s₁ (mkF mt 12 #[.val (.ref a), .val (.int (0 : Int32)), .val (.ref b), .val (.int (0 : Int32)), .val (.int (1 : Int32)), .val (.int (0 : Int32)), .unset] [(.int (0 : Int32)), (.ref a)])
  refine Win.st ?_ (own_cald (g := (mkF mt 12 #[.val (.ref a), .val (.int (0 : Int32)), .val (.ref b), .val (.int (0 : Int32)), .val (.int (1 : Int32)), .val (.int (0 : Int32)), .unset] [(.int (0 : Int32)), (.ref a)])) X0 hx hZ e0 VA (j := (0 : Int32)) (v := (.int x0)) (by decide) (by decide) rfl rfl rfl (hb hby d_jdk_52_method_21_12))
  show Win p e below _ s₁ (mkF mt 13 #[.val (.ref a), .val (.int (0 : Int32)), .val (.ref b), .val (.int (0 : Int32)), .val (.int (1 : Int32)), .val (.int (0 : Int32)), .unset] [(.int x0)])
  refine Win.st ?_ (fun tq kq => XS.istore X0.here hx rfl (hb hby d_jdk_52_method_21_13) rfl (l' := #[.val (.ref a), .val (.int (0 : Int32)), .val (.ref b), .val (.int (0 : Int32)), .val (.int (1 : Int32)), .val (.int (0 : Int32)), .val (.int x0)]) rfl kq)
  show Win p e below _ s₁ (mkF mt 15 #[.val (.ref a), .val (.int (0 : Int32)), .val (.ref b), .val (.int (0 : Int32)), .val (.int (1 : Int32)), .val (.int (0 : Int32)), .val (.int x0)] [])
  refine Win.st ?_ (fun tq kq => XS.iload X0.here hx rfl (hb hby d_jdk_52_method_21_15) rfl kq)
  show Win p e below _ s₁ (mkF mt 17 #[.val (.ref a), .val (.int (0 : Int32)), .val (.ref b), .val (.int (0 : Int32)), .val (.int (1 : Int32)), .val (.int (0 : Int32)), .val (.int x0)] [(.int x0)])
  refine Win.st ?_ (fun tq kq => XS.sipush X0.here hx rfl (hb hby d_jdk_52_method_21_17) kq)
  show Win p e below _ s₁ (mkF mt 20 #[.val (.ref a), .val (.int (0 : Int32)), .val (.ref b), .val (.int (0 : Int32)), .val (.int (1 : Int32)), .val (.int (0 : Int32)), .val (.int x0)] [(.int (255 : Int32)), (.int x0)])
  refine Win.st ?_ (fun tq kq => XS.icmpYes X0.here hx rfl (pc0 := 20) (pc' := 26) rfl (hb hby d_jdk_52_method_21_20) rfl (flt (own_nlt (by rw [own_i255]; exact hp0.2))).2.2.2 (by decide) (by decide) kq)
  show Win p e below _ s₁ (mkF mt 26 #[.val (.ref a), .val (.int (0 : Int32)), .val (.ref b), .val (.int (0 : Int32)), .val (.int (1 : Int32)), .val (.int (0 : Int32)), .val (.int x0)] [])
  refine Win.st ?_ (fun tq kq => XS.aloadN X0.here hx rfl (hb hby d_jdk_52_method_21_26) rfl rfl kq)
  show Win p e below _ s₁ (mkF mt 27 #[.val (.ref a), .val (.int (0 : Int32)), .val (.ref b), .val (.int (0 : Int32)), .val (.int (1 : Int32)), .val (.int (0 : Int32)), .val (.int x0)] [(.ref b)])
  refine Win.st ?_ (fun tq kq => XS.iloadN X0.here hx rfl (hb hby d_jdk_52_method_21_27) rfl kq)
  show Win p e below _ s₁ (mkF mt 28 #[.val (.ref a), .val (.int (0 : Int32)), .val (.ref b), .val (.int (0 : Int32)), .val (.int (1 : Int32)), .val (.int (0 : Int32)), .val (.int x0)] [(.int (0 : Int32)), (.ref b)])
  refine Win.st ?_ (fun tq kq => XS.iload X0.here hx rfl (hb hby d_jdk_52_method_21_28) rfl kq)
  show Win p e below _ s₁ (mkF mt 30 #[.val (.ref a), .val (.int (0 : Int32)), .val (.ref b), .val (.int (0 : Int32)), .val (.int (1 : Int32)), .val (.int (0 : Int32)), .val (.int x0)] [(.int x0), (.int (0 : Int32)), (.ref b)])
  refine Win.st ?_ (fun tq kq => XS.i2b X0.here hx rfl (hb hby d_jdk_52_method_21_30) rfl kq)
  show Win p e below _ s₁ (mkF mt 31 #[.val (.ref a), .val (.int (0 : Int32)), .val (.ref b), .val (.int (0 : Int32)), .val (.int (1 : Int32)), .val (.int (0 : Int32)), .val (.int x0)] [(.int (x0.toInt8.toInt32)), (.int (0 : Int32)), (.ref b)])
  obtain ⟨T59, h59, L59, X59, N59, e59, kp59, V59, st59⟩ := own_bast (g := (mkF mt 31 #[.val (.ref a), .val (.int (0 : Int32)), .val (.ref b), .val (.int (0 : Int32)), .val (.int (1 : Int32)), .val (.int (0 : Int32)), .val (.int x0)] [(.int (x0.toInt8.toInt32)), (.int (0 : Int32)), (.ref b)])) X0 hx hZ e0 N0 gb VB (j := (0 : Int32)) (by decide) (by decide) (i := 0) rfl (by simp) rfl rfl (hb hby d_jdk_52_method_21_31)
  rw [own_b8] at V59
  replace V59 : Arv Z h59 b kb .byte (1 : Int32) ([(.int (x0.toInt8.toInt32))]) (.int (0 : Int32)) := V59
  have f60_35 := VA.keep kp59 (ninS nab nin0)
  have Z61 : n0 ≤ h59.size := Nat.le_trans Z0 kp59.1
  have K62 : Keep h0 h59 [b] := Keep.trans (Keep.refl h0 [b]) kp59 (allS (Or.inl (List.mem_of_getElem? (i := 0) rfl)) all0)
  refine Win.st ?_ st59
  show Win p e below _ T59 (mkF mt 32 #[.val (.ref a), .val (.int (0 : Int32)), .val (.ref b), .val (.int (0 : Int32)), .val (.int (1 : Int32)), .val (.int (0 : Int32)), .val (.int x0)] [])
  refine Win.st ?_ (fun tq kq => XS.iinc X59.here hx rfl (hb hby d_jdk_52_method_21_32) rfl (l' := #[.val (.ref a), .val (.int (1 : Int32)), .val (.ref b), .val (.int (0 : Int32)), .val (.int (1 : Int32)), .val (.int (0 : Int32)), .val (.int x0)]) rfl kq)
  show Win p e below _ T59 (mkF mt 35 #[.val (.ref a), .val (.int (1 : Int32)), .val (.ref b), .val (.int (0 : Int32)), .val (.int (1 : Int32)), .val (.int (0 : Int32)), .val (.int x0)] [])
  refine Win.st ?_ (fun tq kq => XS.iinc X59.here hx rfl (hb hby d_jdk_52_method_21_35) rfl (l' := #[.val (.ref a), .val (.int (1 : Int32)), .val (.ref b), .val (.int (1 : Int32)), .val (.int (1 : Int32)), .val (.int (0 : Int32)), .val (.int x0)]) rfl kq)
  show Win p e below _ T59 (mkF mt 38 #[.val (.ref a), .val (.int (1 : Int32)), .val (.ref b), .val (.int (1 : Int32)), .val (.int (1 : Int32)), .val (.int (0 : Int32)), .val (.int x0)] [])
  refine Win.st ?_ (fun tq kq => XS.iinc X59.here hx rfl (hb hby d_jdk_52_method_21_38) rfl (l' := #[.val (.ref a), .val (.int (1 : Int32)), .val (.ref b), .val (.int (1 : Int32)), .val (.int (1 : Int32)), .val (.int (1 : Int32)), .val (.int x0)]) rfl kq)
  show Win p e below _ T59 (mkF mt 41 #[.val (.ref a), .val (.int (1 : Int32)), .val (.ref b), .val (.int (1 : Int32)), .val (.int (1 : Int32)), .val (.int (1 : Int32)), .val (.int x0)] [])
  refine Win.st ?_ (fun tq kq => XS.goto X59.here hx rfl (pc0 := 41) (pc' := 3) rfl (hb hby d_jdk_52_method_21_41) (by decide) (by decide) kq)
  show Win p e below _ T59 (mkF mt 3 #[.val (.ref a), .val (.int (1 : Int32)), .val (.ref b), .val (.int (1 : Int32)), .val (.int (1 : Int32)), .val (.int (1 : Int32)), .val (.int x0)] [])
  refine Win.st ?_ (fun tq kq => XS.iload X59.here hx rfl (hb hby d_jdk_52_method_21_3) rfl kq)
  show Win p e below _ T59 (mkF mt 5 #[.val (.ref a), .val (.int (1 : Int32)), .val (.ref b), .val (.int (1 : Int32)), .val (.int (1 : Int32)), .val (.int (1 : Int32)), .val (.int x0)] [(.int (1 : Int32))])
  refine Win.st ?_ (fun tq kq => XS.iload X59.here hx rfl (hb hby d_jdk_52_method_21_5) rfl kq)
  show Win p e below _ T59 (mkF mt 7 #[.val (.ref a), .val (.int (1 : Int32)), .val (.ref b), .val (.int (1 : Int32)), .val (.int (1 : Int32)), .val (.int (1 : Int32)), .val (.int x0)] [(.int (1 : Int32)), (.int (1 : Int32))])
  refine Win.st ?_ (fun tq kq => XS.icmpYes X59.here hx rfl (pc0 := 7) (pc' := 44) rfl (hb hby d_jdk_52_method_21_7) rfl (flt (Int32.lt_irrefl)).2.1 (by decide) (by decide) kq)
  show Win p e below _ T59 (mkF mt 44 #[.val (.ref a), .val (.int (1 : Int32)), .val (.ref b), .val (.int (1 : Int32)), .val (.int (1 : Int32)), .val (.int (1 : Int32)), .val (.int x0)] [])
  refine Win.st ?_ (fun tq kq => XS.iload X59.here hx rfl (hb hby d_jdk_52_method_21_44) rfl kq)
  show Win p e below _ T59 (mkF mt 46 #[.val (.ref a), .val (.int (1 : Int32)), .val (.ref b), .val (.int (1 : Int32)), .val (.int (1 : Int32)), .val (.int (1 : Int32)), .val (.int x0)] [(.int (1 : Int32))])
  exact Win.ret X59 hx hlk e59 hrt rfl (Or.inl ⟨rfl, Or.inl rfl, _, rfl⟩) (hb hby d_jdk_52_method_21_46) (by decide) (by decide) ⟨rfl, N59, K62, V59⟩
theorem d_jdk_52_method_16_0 : decode jdk_52_method_16_code 0 = .ok (.iload_n 2, 1) := by decide +kernel
theorem d_jdk_52_method_16_1 : decode jdk_52_method_16_code 1 = .ok (.newarray .byte, 2) := by decide +kernel
theorem d_jdk_52_method_16_3 : decode jdk_52_method_16_code 3 = .ok (.astore_n 3, 1) := by decide +kernel
theorem d_jdk_52_method_16_4 : decode jdk_52_method_16_code 4 = .ok (.aload_n 0, 1) := by decide +kernel
theorem d_jdk_52_method_16_5 : decode jdk_52_method_16_code 5 = .ok (.iload_n 1, 1) := by decide +kernel
theorem d_jdk_52_method_16_6 : decode jdk_52_method_16_code 6 = .ok (.aload_n 3, 1) := by decide +kernel
theorem d_jdk_52_method_16_7 : decode jdk_52_method_16_code 7 = .ok (.iconst 0, 1) := by decide +kernel
theorem d_jdk_52_method_16_8 : decode jdk_52_method_16_code 8 = .ok (.iload_n 2, 1) := by decide +kernel
theorem d_jdk_52_method_16_9 : decode jdk_52_method_16_code 9 = .ok (.invokestatic 115, 3) := by decide +kernel
theorem pd_9 : parseMethodDescriptor "([CI[BII)I" = some ⟨[(.array .char), .int, (.array .byte), .int, .int], some .int⟩ := by decide +kernel
theorem d_jdk_52_method_16_12 : decode jdk_52_method_16_code 12 = .ok (.istore 4, 2) := by decide +kernel
theorem d_jdk_52_method_16_14 : decode jdk_52_method_16_code 14 = .ok (.iload 4, 2) := by decide +kernel
theorem d_jdk_52_method_16_16 : decode jdk_52_method_16_code 16 = .ok (.iload_n 2, 1) := by decide +kernel
theorem d_jdk_52_method_16_17 : decode jdk_52_method_16_code 17 = .ok (.if_icmp .eq 40, 3) := by decide +kernel
theorem d_jdk_52_method_16_57 : decode jdk_52_method_16_code 57 = .ok (.aload_n 3, 1) := by decide +kernel
theorem d_jdk_52_method_16_58 : decode jdk_52_method_16_code 58 = .ok (.areturn, 1) := by decide +kernel
theorem ef_cmp3_1 (mt : MethodId) (a : Addr) : entryFrame mt #[(.ref a), (.int (0 : Int32)), (.int (1 : Int32))] 6 = mkF mt 0 #[.val (.ref a), .val (.int (0 : Int32)), .val (.int (1 : Int32)), .unset, .unset, .unset] [] := by first | (simp [entryFrame, mkF, argsToLocals, Value.category]; done) | rfl
def Q_cmp3_1 (Z : State) (a : Addr) (ka : ClassId) (x0 : Int32) (h0 : Heap) (n0 : Nat) (v : Option Value) (h : Heap) (L : List Loc) : Prop := ∃ r : Addr, v = some (.ref r) ∧ Fr n0 L ∧ Keep h0 h [] ∧ n0 ≤ r ∧ h0.size ≤ r ∧ ∃ k : ClassId, Arv Z h r k .byte (1 : Int32) [(.int (x0.toInt8.toInt32))] (.int (0 : Int32))
set_option maxRecDepth 65536 in
set_option maxHeartbeats 40000000 in
theorem rm_cmp3_1 (l : Launch) (Z : State) (a0 : Array Value) (hw : ∀ d ∈ tables_1, d.before a0 Z = true) (ws : List Jvm.Cond) (a : Addr) (ka : ClassId) (x0 : Int32) (h0 : Heap) (n0 : Nat) (Z0 : n0 ≤ h0.size) (VA : Arv Z h0 a ka .char (1 : Int32) [(.int x0)] (.int (0 : Int32))) (hp0 : own_B x0) :
    MetFree l (⟨"java/lang/StringUTF16", "compress", "([CII)[B"⟩ : MethodName) (head1 (Jvm.Cond.code (⟨"java/lang/StringUTF16", "compress", "([CII)[B"⟩ : MethodName) jdk_52_method_16_code 6 (some (.array .byte)) :: ws) ({ frames := 1, cells := 1, slots := 1, locals := 18 } : Room)) (fun aa UU => aa = #[(.ref a), (.int (0 : Int32)), (.int (1 : Int32))] ∧ Z.Warmed39 UU.vm ∧ UU.heap = h0) (fun _ _ _ _ _ => True) (fun _ UU oo UU' => ∃ vv LL, oo = .returned vv ∧ Q_cmp3_1 Z a ka x0 h0 n0 vv UU'.heap LL ∧ FrameEnd UU oo UU' LL ({ frames := 1, cells := 1, slots := 1, locals := 18 } : Room).cells ({ frames := 1, cells := 1, slots := 1, locals := 18 } : Room).slots) := by
  refine MetFree.of_bodySF (plainFor_of_name pn_4) hisR ?_
  intro p e s mt args below meth cd s₁ Bd hml0 hP hK
  obtain ⟨hA, hZ, hh⟩ := hP
  have hx := Bd.exec
  have hby := Bd.bytes
  have hml : cd.maxLocals = 6 := hml0
  have hown : s.vm.findClass "java/lang/StringUTF16" = some mt.cls := findClass_of_methodNamed Bd.named
  have hnm := (name_of_methodNamed Bd.named Bd.method).1
  have hlk : meth.locks = false := BodyLoose.notSynchronized Bd
  have hrt := Bd.returns
  have X0 : Stand p l e ({ frames := 1, cells := 1, slots := 1, locals := 18 } : Room) s mt args below meth cd s₁ [] 0 0 := Stand.of_body Bd
  have e0 : s₁.heap = h0 := by rw [← hh, Bd.state]; rfl
  have N0 := Fr.nil n0
  show Win p e below (Ends s (Q_cmp3_1 Z a ka x0 h0 n0) ({ frames := 1, cells := 1, slots := 1, locals := 18 } : Room).cells ({ frames := 1, cells := 1, slots := 1, locals := 18 } : Room).slots) s₁ (entryFrame mt args 6)
  rw [hA, ef_cmp3_1]
  refine Win.st ?_ (fun tq kq => XS.iloadN X0.here hx rfl (hb hby d_jdk_52_method_16_0) rfl kq)
  show Win p e below _ s₁ (mkF mt 1 #[.val (.ref a), .val (.int (0 : Int32)), .val (.int (1 : Int32)), .unset, .unset, .unset] [(.int (1 : Int32))])
  obtain ⟨T63, h63, k63, X63, e63, E63, A63, st63⟩ := newP X0 hx hZ (hw _ (List.mem_of_getElem? (i := 23) rfl)) e0 (g := (mkF mt 1 #[.val (.ref a), .val (.int (0 : Int32)), .val (.int (1 : Int32)), .unset, .unset, .unset] [(.int (1 : Int32))])) rfl (hb hby d_jdk_52_method_16_1) rfl (by decide) (cap := 1) (by decide) (by decide) (by decide) (by decide)
  obtain ⟨b63, gq63⟩ : ∃ z, z = h0.size := ⟨_, rfl⟩
  rw [← gq63] at A63 st63
  have ne64 : a ≠ b63 := own_new gq63 VA.lt
  have g65 : n0 ≤ b63 := own_newle Z0 gq63
  have z66 : h0.size ≤ b63 := own_newle (Keep.refl h0 []).1 gq63
  have ke63 := own_kext E63
  replace X63 : Stand p l e _ s mt args below meth cd T63 _ 1 1 := X63
  have f67_10 := VA.keep ke63 nin0
  have Z68 : n0 ≤ h63.size := Nat.le_trans Z0 ke63.1
  have K69 : Keep h0 h63 [] := Keep.trans (Keep.refl h0 []) ke63 all0
  have V63 : Arv Z h63 b63 k63 .byte (1 : Int32) [(.int (0 : Int32))] (.int (0 : Int32)) := (Arv.new A63 (by decide)).pad (pad_rep [] (.int (0 : Int32)) 1)
  refine Win.st ?_ st63
  show Win p e below _ T63 (mkF mt 3 #[.val (.ref a), .val (.int (0 : Int32)), .val (.int (1 : Int32)), .unset, .unset, .unset] [(.ref b63)])
  refine Win.st ?_ (fun tq kq => XS.astoreN X63.here hx rfl (hb hby d_jdk_52_method_16_3) rfl rfl (l' := #[.val (.ref a), .val (.int (0 : Int32)), .val (.int (1 : Int32)), .val (.ref b63), .unset, .unset]) rfl kq)
  show Win p e below _ T63 (mkF mt 4 #[.val (.ref a), .val (.int (0 : Int32)), .val (.int (1 : Int32)), .val (.ref b63), .unset, .unset] [])
  refine Win.st ?_ (fun tq kq => XS.aloadN X63.here hx rfl (hb hby d_jdk_52_method_16_4) rfl rfl kq)
  show Win p e below _ T63 (mkF mt 5 #[.val (.ref a), .val (.int (0 : Int32)), .val (.int (1 : Int32)), .val (.ref b63), .unset, .unset] [(.ref a)])
  refine Win.st ?_ (fun tq kq => XS.iloadN X63.here hx rfl (hb hby d_jdk_52_method_16_5) rfl kq)
  show Win p e below _ T63 (mkF mt 6 #[.val (.ref a), .val (.int (0 : Int32)), .val (.int (1 : Int32)), .val (.ref b63), .unset, .unset] [(.int (0 : Int32)), (.ref a)])
  refine Win.st ?_ (fun tq kq => XS.aloadN X63.here hx rfl (hb hby d_jdk_52_method_16_6) rfl rfl kq)
  show Win p e below _ T63 (mkF mt 7 #[.val (.ref a), .val (.int (0 : Int32)), .val (.int (1 : Int32)), .val (.ref b63), .unset, .unset] [(.ref b63), (.int (0 : Int32)), (.ref a)])
  refine Win.st ?_ (fun tq kq => XS.iconst X63.here hx rfl (hb hby d_jdk_52_method_16_7) kq)
  show Win p e below _ T63 (mkF mt 8 #[.val (.ref a), .val (.int (0 : Int32)), .val (.int (1 : Int32)), .val (.ref b63), .unset, .unset] [(.int (0 : Int32)), (.ref b63), (.int (0 : Int32)), (.ref a)])
  refine Win.st ?_ (fun tq kq => XS.iloadN X63.here hx rfl (hb hby d_jdk_52_method_16_8) rfl kq)
  show Win p e below _ T63 (mkF mt 9 #[.val (.ref a), .val (.int (0 : Int32)), .val (.int (1 : Int32)), .val (.ref b63), .unset, .unset] [(.int (1 : Int32)), (.int (0 : Int32)), (.ref b63), (.int (0 : Int32)), (.ref a)])
  obtain ⟨v70, _, ⟨T70, L70, k70, n70⟩, -, X70, ⟨Lc70, hQ70, l70, y70, z70⟩, st70⟩ := Jvm.LawKit.callS X63 hx (y := (⟨"java/lang/StringUTF16", "compress", "([CI[BII)I"⟩ : MethodName)) hown (mvT hZ (hw _ (List.mem_of_getElem? (i := 78) rfl))) (mvT hZ (hw _ (List.mem_of_getElem? (i := 79) rfl))) (mvT hZ (hw _ (List.mem_of_getElem? (i := 76) rfl))) (mvT hZ (hw _ (List.mem_of_getElem? (i := 80) rfl))) (by decide) (backOf (W := 0) (rm_cmp5_1 l Z a0 hw [] a b63 ka k63 x0 h63 n0 Z68 f67_10 V63 g65 ne64 hp0) hZ (hw _ (List.mem_of_getElem? (i := 80) rfl)) (hw _ (List.mem_of_getElem? (i := 76) rfl)) (by decide) (by decide)) (g := (mkF mt 9 #[.val (.ref a), .val (.int (0 : Int32)), .val (.int (1 : Int32)), .val (.ref b63), .unset, .unset] [(.int (1 : Int32)), (.int (0 : Int32)), (.ref b63), (.int (0 : Int32)), (.ref a)])) rfl (by rw [hml]; rfl) (argsL := [(.ref a), (.int (0 : Int32)), (.ref b63), (.int (0 : Int32)), (.int (1 : Int32))]) (rest := []) (lenOf pd_9 rfl) rfl (by show 2 * 0 + _ ≤ _; exact Nat.le_of_eq rfl) (hb hby d_jdk_52_method_16_9) (fun _ _ => ⟨rfl, e63, (by decide : 1 + 0 ≤ _), (by decide : 1 + 0 ≤ _)⟩)
  dsimp only [Pt.U, Pt.locs, Pt.cells, Pt.slots] at X70 l70 y70 z70 st70 hQ70
  subst y70 z70
  replace X70 : Stand p l e _ s mt args below meth cd T70 L70 1 1 := X70
  obtain ⟨h70, e70⟩ : ∃ z, T70.heap = z := ⟨_, rfl⟩
  rw [e70] at hQ70
  obtain ⟨rfl, Nq70, K70, V70⟩ := hQ70
  have N70 : Fr n0 L70 := by rw [l70]; exact Fr.app N0 Nq70
  have f71_36 := f67_10.keep K70 (ninS ne64 nin0)
  have Z72 : n0 ≤ h70.size := Nat.le_trans Z68 K70.1
  have K73 : Keep h0 h70 [] := Keep.trans K69 K70 (allS (Or.inr z66) all0)
  refine Win.st ?_ st70
  show Win p e below _ T70 (mkF mt 12 #[.val (.ref a), .val (.int (0 : Int32)), .val (.int (1 : Int32)), .val (.ref b63), .unset, .unset] [(.int (1 : Int32))])
  refine Win.st ?_ (fun tq kq => XS.istore X70.here hx rfl (hb hby d_jdk_52_method_16_12) rfl (l' := #[.val (.ref a), .val (.int (0 : Int32)), .val (.int (1 : Int32)), .val (.ref b63), .val (.int (1 : Int32)), .unset]) rfl kq)
  show Win p e below _ T70 (mkF mt 14 #[.val (.ref a), .val (.int (0 : Int32)), .val (.int (1 : Int32)), .val (.ref b63), .val (.int (1 : Int32)), .unset] [])
  refine Win.st ?_ (fun tq kq => XS.iload X70.here hx rfl (hb hby d_jdk_52_method_16_14) rfl kq)
  show Win p e below _ T70 (mkF mt 16 #[.val (.ref a), .val (.int (0 : Int32)), .val (.int (1 : Int32)), .val (.ref b63), .val (.int (1 : Int32)), .unset] [(.int (1 : Int32))])
  refine Win.st ?_ (fun tq kq => XS.iloadN X70.here hx rfl (hb hby d_jdk_52_method_16_16) rfl kq)
  show Win p e below _ T70 (mkF mt 17 #[.val (.ref a), .val (.int (0 : Int32)), .val (.int (1 : Int32)), .val (.ref b63), .val (.int (1 : Int32)), .unset] [(.int (1 : Int32)), (.int (1 : Int32))])
  refine Win.st ?_ (fun tq kq => XS.icmpYes X70.here hx rfl (pc0 := 17) (pc' := 57) rfl (hb hby d_jdk_52_method_16_17) rfl (teq (rfl : (1 : Int32) = (1 : Int32))).1 (by decide) (by decide) kq)
  show Win p e below _ T70 (mkF mt 57 #[.val (.ref a), .val (.int (0 : Int32)), .val (.int (1 : Int32)), .val (.ref b63), .val (.int (1 : Int32)), .unset] [])
  refine Win.st ?_ (fun tq kq => XS.aloadN X70.here hx rfl (hb hby d_jdk_52_method_16_57) rfl rfl kq)
  show Win p e below _ T70 (mkF mt 58 #[.val (.ref a), .val (.int (0 : Int32)), .val (.int (1 : Int32)), .val (.ref b63), .val (.int (1 : Int32)), .unset] [(.ref b63)])
  exact Win.ret X70 hx hlk e70 hrt rfl (Or.inr (Or.inr (Or.inr (Or.inr ⟨rfl, rfl, rfl⟩)))) (hb hby d_jdk_52_method_16_58) (by decide) (by decide) ⟨_, rfl, N70, K73, g65, z66, _, V70⟩
theorem d_jdk_52_method_15_0 : decode jdk_52_method_15_code 0 = .ok (.iload_n 1, 1) := by decide +kernel
theorem d_jdk_52_method_15_1 : decode jdk_52_method_15_code 1 = .ok (.aload_n 0, 1) := by decide +kernel
theorem d_jdk_52_method_15_2 : decode jdk_52_method_15_code 2 = .ok (.arraylength, 1) := by decide +kernel
theorem d_jdk_52_method_15_3 : decode jdk_52_method_15_code 3 = .ok (.isub, 1) := by decide +kernel
theorem d_jdk_52_method_15_4 : decode jdk_52_method_15_code 4 = .ok (.bipush 31, 2) := by decide +kernel
theorem d_jdk_52_method_15_6 : decode jdk_52_method_15_code 6 = .ok (.iushr, 1) := by decide +kernel
theorem d_jdk_52_method_15_7 : decode jdk_52_method_15_code 7 = .ok (.i2b, 1) := by decide +kernel
theorem d_jdk_52_method_15_8 : decode jdk_52_method_15_code 8 = .ok (.ireturn, 1) := by decide +kernel
theorem ef_cfa_1 (mt : MethodId) (b : Addr) : entryFrame mt #[(.ref b), (.int (1 : Int32))] 2 = mkF mt 0 #[.val (.ref b), .val (.int (1 : Int32))] [] := by first | (simp [entryFrame, mkF, argsToLocals, Value.category]; done) | rfl
def Q_cfa_1 (Z : State) (b : Addr) (kb : ClassId) (vs : List Value) (h0 : Heap) (n0 : Nat) (v : Option Value) (h : Heap) (L : List Loc) : Prop := v = some (.int (0 : Int32)) ∧ Fr n0 L ∧ h = h0
set_option maxRecDepth 65536 in
set_option maxHeartbeats 40000000 in
theorem rm_cfa_1 (l : Launch) (Z : State) (a0 : Array Value) (hw : ∀ d ∈ tables_1, d.before a0 Z = true) (ws : List Jvm.Cond) (b : Addr) (kb : ClassId) (vs : List Value) (h0 : Heap) (n0 : Nat) (Z0 : n0 ≤ h0.size) (VB : Arv Z h0 b kb .byte (1 : Int32) vs (.int (0 : Int32))) :
    MetFree l (⟨"java/lang/StringUTF16", "coderFromArrayLen", "([BI)B"⟩ : MethodName) (head1 (Jvm.Cond.code (⟨"java/lang/StringUTF16", "coderFromArrayLen", "([BI)B"⟩ : MethodName) jdk_52_method_15_code 2 (some .byte) :: ws) ({ frames := 0, cells := 0, slots := 0, locals := 0 } : Room)) (fun aa UU => aa = #[(.ref b), (.int (1 : Int32))] ∧ Z.Warmed39 UU.vm ∧ UU.heap = h0) (fun _ _ _ _ _ => True) (fun _ UU oo UU' => ∃ vv LL, oo = .returned vv ∧ Q_cfa_1 Z b kb vs h0 n0 vv UU'.heap LL ∧ FrameEnd UU oo UU' LL ({ frames := 0, cells := 0, slots := 0, locals := 0 } : Room).cells ({ frames := 0, cells := 0, slots := 0, locals := 0 } : Room).slots) := by
  refine MetFree.of_bodySF (plainFor_of_name pn_4) hisR ?_
  intro p e s mt args below meth cd s₁ Bd hml0 hP hK
  obtain ⟨hA, hZ, hh⟩ := hP
  have hx := Bd.exec
  have hby := Bd.bytes
  have hml : cd.maxLocals = 2 := hml0
  have hown : s.vm.findClass "java/lang/StringUTF16" = some mt.cls := findClass_of_methodNamed Bd.named
  have hnm := (name_of_methodNamed Bd.named Bd.method).1
  have hlk : meth.locks = false := BodyLoose.notSynchronized Bd
  have hrt := Bd.returns
  have X0 : Stand p l e ({ frames := 0, cells := 0, slots := 0, locals := 0 } : Room) s mt args below meth cd s₁ [] 0 0 := Stand.of_body Bd
  have e0 : s₁.heap = h0 := by rw [← hh, Bd.state]; rfl
  have N0 := Fr.nil n0
  show Win p e below (Ends s (Q_cfa_1 Z b kb vs h0 n0) ({ frames := 0, cells := 0, slots := 0, locals := 0 } : Room).cells ({ frames := 0, cells := 0, slots := 0, locals := 0 } : Room).slots) s₁ (entryFrame mt args 2)
  rw [hA, ef_cfa_1]
  refine Win.st ?_ (fun tq kq => XS.iloadN X0.here hx rfl (hb hby d_jdk_52_method_15_0) rfl kq)
  show Win p e below _ s₁ (mkF mt 1 #[.val (.ref b), .val (.int (1 : Int32))] [(.int (1 : Int32))])
  refine Win.st ?_ (fun tq kq => XS.aloadN X0.here hx rfl (hb hby d_jdk_52_method_15_1) rfl rfl kq)
  show Win p e below _ s₁ (mkF mt 2 #[.val (.ref b), .val (.int (1 : Int32))] [(.ref b), (.int (1 : Int32))])
  refine Win.st ?_ (own_alen (g := (mkF mt 2 #[.val (.ref b), .val (.int (1 : Int32))] [(.ref b), (.int (1 : Int32))])) X0 hx hZ e0 VB rfl rfl (hb hby d_jdk_52_method_15_2))
  show Win p e below _ s₁ (mkF mt 3 #[.val (.ref b), .val (.int (1 : Int32))] [(.int (1 : Int32)), (.int (1 : Int32))])
  refine Win.st ?_ (fun tq kq => XS.isub X0.here hx rfl (hb hby d_jdk_52_method_15_3) rfl kq)
  show Win p e below _ s₁ (mkF mt 4 #[.val (.ref b), .val (.int (1 : Int32))] [(.int ((1 : Int32) - (1 : Int32)))])
  refine Win.st ?_ (fun tq kq => XS.bipush X0.here hx rfl (hb hby d_jdk_52_method_15_4) kq)
  show Win p e below _ s₁ (mkF mt 6 #[.val (.ref b), .val (.int (1 : Int32))] [(.int (31 : Int32)), (.int ((1 : Int32) - (1 : Int32)))])
  refine Win.st ?_ (fun tq kq => XS.iushr X0.here hx rfl (hb hby d_jdk_52_method_15_6) rfl kq)
  show Win p e below _ s₁ (mkF mt 7 #[.val (.ref b), .val (.int (1 : Int32))] [(.int ((((1 : Int32) - (1 : Int32)).toUInt32 >>> ((31 : Int32) &&& 31).toUInt32).toInt32))])
  refine Win.st ?_ (fun tq kq => XS.i2b X0.here hx rfl (hb hby d_jdk_52_method_15_7) rfl kq)
  show Win p e below _ s₁ (mkF mt 8 #[.val (.ref b), .val (.int (1 : Int32))] [(.int (((((1 : Int32) - (1 : Int32)).toUInt32 >>> ((31 : Int32) &&& 31).toUInt32).toInt32).toInt8.toInt32))])
  exact Win.retN X0 hx hlk e0 (t := .byte) (z' := (0 : Int32)) hrt (by simp) (hb hby d_jdk_52_method_15_8) (by decide) (by decide) (by decide) ⟨rfl, N0, rfl⟩
theorem d_jdk_42_method_149_27 : decode jdk_42_method_149_code 27 = .ok (.getstatic 38, 3) := by decide +kernel
theorem d_jdk_42_method_149_30 : decode jdk_42_method_149_code 30 = .ok (.ifCond .eq 28, 3) := by decide +kernel
theorem d_jdk_42_method_149_33 : decode jdk_42_method_149_code 33 = .ok (.aload_n 1, 1) := by decide +kernel
theorem d_jdk_42_method_149_34 : decode jdk_42_method_149_code 34 = .ok (.iload_n 2, 1) := by decide +kernel
theorem d_jdk_42_method_149_35 : decode jdk_42_method_149_code 35 = .ok (.iload_n 3, 1) := by decide +kernel
theorem d_jdk_42_method_149_36 : decode jdk_42_method_149_code 36 = .ok (.invokestatic 177, 3) := by decide +kernel
theorem pd_10 : parseMethodDescriptor "([CII)[B" = some ⟨[(.array .char), .int, .int], some (.array .byte)⟩ := by decide +kernel
theorem d_jdk_42_method_149_39 : decode jdk_42_method_149_code 39 = .ok (.astore 5, 2) := by decide +kernel
theorem d_jdk_42_method_149_41 : decode jdk_42_method_149_code 41 = .ok (.aload_n 0, 1) := by decide +kernel
theorem d_jdk_42_method_149_42 : decode jdk_42_method_149_code 42 = .ok (.aload 5, 2) := by decide +kernel
theorem d_jdk_42_method_149_44 : decode jdk_42_method_149_code 44 = .ok (.iload_n 3, 1) := by decide +kernel
theorem d_jdk_42_method_149_45 : decode jdk_42_method_149_code 45 = .ok (.invokestatic 47, 3) := by decide +kernel
theorem pd_11 : parseMethodDescriptor "([BI)B" = some ⟨[(.array .byte), .int], some .byte⟩ := by decide +kernel
theorem d_jdk_42_method_149_48 : decode jdk_42_method_149_code 48 = .ok (.putfield 15, 3) := by decide +kernel
theorem d_jdk_42_method_149_51 : decode jdk_42_method_149_code 51 = .ok (.aload_n 0, 1) := by decide +kernel
theorem d_jdk_42_method_149_52 : decode jdk_42_method_149_code 52 = .ok (.aload 5, 2) := by decide +kernel
theorem d_jdk_42_method_149_54 : decode jdk_42_method_149_code 54 = .ok (.putfield 9, 3) := by decide +kernel
theorem d_jdk_42_method_149_57 : decode jdk_42_method_149_code 57 = .ok (.return_, 1) := by decide +kernel
theorem ef_si6_1 (mt : MethodId) (a : Addr) (c : Addr) : entryFrame mt #[(.ref a), (.ref c), (.int (0 : Int32)), (.int (1 : Int32)), .null] 6 = mkF mt 0 #[.val (.ref a), .val (.ref c), .val (.int (0 : Int32)), .val (.int (1 : Int32)), .val .null, .unset] [] := by first | (simp [entryFrame, mkF, argsToLocals, Value.category]; done) | rfl
def Q_si6_1 (Z : State) (a : Addr) (c : Addr) (cs : Int32) (kc : ClassId) (x0 : Int32) (h0 : Heap) (n0 : Nat) (v : Option Value) (h : Heap) (L : List Loc) : Prop := v = none ∧ Fr n0 L ∧ Keep h0 h [a] ∧ Fld Z h a "java/lang/String" "coder" "B" (.int (0 : Int32)) ∧ ∃ (t : Addr) (k : ClassId), n0 ≤ t ∧ h0.size ≤ t ∧ Fld Z h a "java/lang/String" "value" "[B" (.ref t) ∧ Arv Z h t k .byte (1 : Int32) [(.int (x0.toInt8.toInt32))] (.int (0 : Int32))
set_option maxRecDepth 65536 in
set_option maxHeartbeats 40000000 in
theorem rm_si6_1 (l : Launch) (Z : State) (a0 : Array Value) (hw : ∀ d ∈ tables_1, d.before a0 Z = true) (ws : List Jvm.Cond) (a : Addr) (c : Addr) (cs : Int32) (kc : ClassId) (x0 : Int32) (h0 : Heap) (n0 : Nat) (Z0 : n0 ≤ h0.size) (E : Exa Z h0 a "java/lang/String") (Fv : Fld Z h0 a "java/lang/String" "value" "[B" .null) (Fc : Fld Z h0 a "java/lang/String" "coder" "B" (.int (0 : Int32))) (ga : n0 ≤ a) (S0 : Sta Z Z.heap "java/lang/String" "COMPACT_STRINGS" "Z" (.int cs)) (hcs : ¬ cs = (0 : Int32)) (O : Old Z n0 h0) (VA : Arv Z h0 c kc .char (1 : Int32) [(.int x0)] (.int (0 : Int32))) (nca : c ≠ a) (hp0 : own_B x0) :
    MetFree l (⟨"java/lang/String", "<init>", "([CIILjava/lang/Void;)V"⟩ : MethodName) (head1 (Jvm.Cond.code (⟨"java/lang/String", "<init>", "([CIILjava/lang/Void;)V"⟩ : MethodName) jdk_42_method_149_code 6 none :: ws) ({ frames := 2, cells := 1, slots := 1, locals := 35 } : Room)) (fun aa UU => aa = #[(.ref a), (.ref c), (.int (0 : Int32)), (.int (1 : Int32)), .null] ∧ Z.Warmed39 UU.vm ∧ UU.heap = h0) (fun _ _ _ _ _ => True) (fun _ UU oo UU' => ∃ vv LL, oo = .returned vv ∧ Q_si6_1 Z a c cs kc x0 h0 n0 vv UU'.heap LL ∧ FrameEnd UU oo UU' LL ({ frames := 2, cells := 1, slots := 1, locals := 35 } : Room).cells ({ frames := 2, cells := 1, slots := 1, locals := 35 } : Room).slots) := by
  refine MetFree.of_bodySF (plainFor_of_name pn_1) hisR ?_
  intro p e s mt args below meth cd s₁ Bd hml0 hP hK
  obtain ⟨hA, hZ, hh⟩ := hP
  have hx := Bd.exec
  have hby := Bd.bytes
  have hml : cd.maxLocals = 6 := hml0
  have hown : s.vm.findClass "java/lang/String" = some mt.cls := findClass_of_methodNamed Bd.named
  have hnm := (name_of_methodNamed Bd.named Bd.method).1
  have hlk : meth.locks = false := BodyLoose.notSynchronized Bd
  have hrt := Bd.returns
  have X0 : Stand p l e ({ frames := 2, cells := 1, slots := 1, locals := 35 } : Room) s mt args below meth cd s₁ [] 0 0 := Stand.of_body Bd
  have e0 : s₁.heap = h0 := by rw [← hh, Bd.state]; rfl
  have N0 := Fr.nil n0
  show Win p e below (Ends s (Q_si6_1 Z a c cs kc x0 h0 n0) ({ frames := 2, cells := 1, slots := 1, locals := 35 } : Room).cells ({ frames := 2, cells := 1, slots := 1, locals := 35 } : Room).slots) s₁ (entryFrame mt args 6)
  rw [hA, ef_si6_1]
  refine Win.st ?_ (fun tq kq => XS.aloadN X0.here hx rfl (hb hby d_jdk_42_method_149_0) rfl rfl kq)
  show Win p e below _ s₁ (mkF mt 1 #[.val (.ref a), .val (.ref c), .val (.int (0 : Int32)), .val (.int (1 : Int32)), .val .null, .unset] [(.ref a)])
  obtain ⟨T74, X74, e74, st74⟩ := initO X0 hx hZ hown (hw _ (List.mem_of_getElem? (i := 19) rfl)) (hw _ (List.mem_of_getElem? (i := 20) rfl)) (hw _ (List.mem_of_getElem? (i := 21) rfl)) e0 (g := (mkF mt 1 #[.val (.ref a), .val (.ref c), .val (.int (0 : Int32)), .val (.int (1 : Int32)), .val .null, .unset] [(.ref a)])) rfl (by rw [hml]; rfl) rfl (hb hby d_jdk_42_method_149_1) (by decide) (W := 0) (by show 2 * 0 + _ ≤ _; exact Nat.le_of_eq rfl) (by decide)
  refine Win.st ?_ st74
  show Win p e below _ T74 (mkF mt 4 #[.val (.ref a), .val (.ref c), .val (.int (0 : Int32)), .val (.int (1 : Int32)), .val .null, .unset] [])
  refine Win.st ?_ (fun tq kq => XS.iloadN X74.here hx rfl (hb hby d_jdk_42_method_149_4) rfl kq)
  show Win p e below _ T74 (mkF mt 5 #[.val (.ref a), .val (.ref c), .val (.int (0 : Int32)), .val (.int (1 : Int32)), .val .null, .unset] [(.int (1 : Int32))])
  refine Win.st ?_ (fun tq kq => XS.ifYes X74.here hx rfl (pc0 := 5) (pc' := 27) rfl (hb hby d_jdk_42_method_149_5) rfl ((if0 _ _).trans (feq (by decide : ¬ ((1 : Int32) = (0 : Int32)))).2) (by decide) (by decide) kq)
  show Win p e below _ T74 (mkF mt 27 #[.val (.ref a), .val (.ref c), .val (.int (0 : Int32)), .val (.int (1 : Int32)), .val .null, .unset] [])
  obtain ⟨T75, X75, e75, st75⟩ := getS2 X74 hx hZ hown (host := "") (Or.inl (hw _ (List.mem_of_getElem? (i := 49) rfl))) Via.refl e74 (S0.ext O.2) (g := (mkF mt 27 #[.val (.ref a), .val (.ref c), .val (.int (0 : Int32)), .val (.int (1 : Int32)), .val .null, .unset] [])) rfl (hb hby d_jdk_42_method_149_27)
  refine Win.st ?_ st75
  show Win p e below _ T75 (mkF mt 30 #[.val (.ref a), .val (.ref c), .val (.int (0 : Int32)), .val (.int (1 : Int32)), .val .null, .unset] [(.int cs)])
  refine Win.st ?_ (fun tq kq => XS.ifNo X75.here hx rfl (hb hby d_jdk_42_method_149_30) rfl ((if0 _ _).trans (feq hcs).1) kq)
  show Win p e below _ T75 (mkF mt 33 #[.val (.ref a), .val (.ref c), .val (.int (0 : Int32)), .val (.int (1 : Int32)), .val .null, .unset] [])
  refine Win.st ?_ (fun tq kq => XS.aloadN X75.here hx rfl (hb hby d_jdk_42_method_149_33) rfl rfl kq)
  show Win p e below _ T75 (mkF mt 34 #[.val (.ref a), .val (.ref c), .val (.int (0 : Int32)), .val (.int (1 : Int32)), .val .null, .unset] [(.ref c)])
  refine Win.st ?_ (fun tq kq => XS.iloadN X75.here hx rfl (hb hby d_jdk_42_method_149_34) rfl kq)
  show Win p e below _ T75 (mkF mt 35 #[.val (.ref a), .val (.ref c), .val (.int (0 : Int32)), .val (.int (1 : Int32)), .val .null, .unset] [(.int (0 : Int32)), (.ref c)])
  refine Win.st ?_ (fun tq kq => XS.iloadN X75.here hx rfl (hb hby d_jdk_42_method_149_35) rfl kq)
  show Win p e below _ T75 (mkF mt 36 #[.val (.ref a), .val (.ref c), .val (.int (0 : Int32)), .val (.int (1 : Int32)), .val .null, .unset] [(.int (1 : Int32)), (.int (0 : Int32)), (.ref c)])
  obtain ⟨v76, _, ⟨T76, L76, k76, n76⟩, -, X76, ⟨Lc76, hQ76, l76, y76, z76⟩, st76⟩ := Jvm.LawKit.callS X75 hx (y := (⟨"java/lang/StringUTF16", "compress", "([CII)[B"⟩ : MethodName)) hown (mvT hZ (hw _ (List.mem_of_getElem? (i := 74) rfl))) (mvT hZ (hw _ (List.mem_of_getElem? (i := 75) rfl))) (mvT hZ (hw _ (List.mem_of_getElem? (i := 76) rfl))) (mvT hZ (hw _ (List.mem_of_getElem? (i := 77) rfl))) (by decide) (backOf (W := 0) (rm_cmp3_1 l Z a0 hw [] c kc x0 h0 n0 Z0 VA hp0) hZ (hw _ (List.mem_of_getElem? (i := 77) rfl)) (hw _ (List.mem_of_getElem? (i := 76) rfl)) (by decide) (by decide)) (g := (mkF mt 36 #[.val (.ref a), .val (.ref c), .val (.int (0 : Int32)), .val (.int (1 : Int32)), .val .null, .unset] [(.int (1 : Int32)), (.int (0 : Int32)), (.ref c)])) rfl (by rw [hml]; rfl) (argsL := [(.ref c), (.int (0 : Int32)), (.int (1 : Int32))]) (rest := []) (lenOf pd_10 rfl) rfl (by show 2 * 0 + _ ≤ _; exact Nat.le_of_eq rfl) (hb hby d_jdk_42_method_149_36) (fun _ _ => ⟨rfl, e75, (by decide : 0 + 1 ≤ _), (by decide : 0 + 1 ≤ _)⟩)
  dsimp only [Pt.U, Pt.locs, Pt.cells, Pt.slots] at X76 l76 y76 z76 st76 hQ76
  subst y76 z76
  replace X76 : Stand p l e _ s mt args below meth cd T76 L76 1 1 := X76
  obtain ⟨h76, e76⟩ : ∃ z, T76.heap = z := ⟨_, rfl⟩
  rw [e76] at hQ76
  obtain ⟨tt, rfl, Nq76, K76, gt76, zt76, kt, V76⟩ := hQ76
  have N76 : Fr n0 L76 := by rw [l76]; exact Fr.app N0 Nq76
  have f77_28 := O.keep K76 all0
  have f77_29 := E.keep K76
  have f77_30 := Fv.keep K76 nin0
  have f77_31 := Fc.keep K76 nin0
  have f77_32 := VA.keep K76 nin0
  have Z78 : n0 ≤ h76.size := Nat.le_trans Z0 K76.1
  have K79 : Keep h0 h76 [a] := Keep.trans (Keep.refl h0 [a]) K76 all0
  have nat : a ≠ tt := Nat.ne_of_lt (Nat.lt_of_lt_of_le E.lt zt76)
  have szt : h0.size ≤ tt := Nat.le_trans (Keep.refl h0 [a]).1 zt76
  refine Win.st ?_ st76
  show Win p e below _ T76 (mkF mt 39 #[.val (.ref a), .val (.ref c), .val (.int (0 : Int32)), .val (.int (1 : Int32)), .val .null, .unset] [(.ref tt)])
  refine Win.st ?_ (fun tq kq => XS.astore X76.here hx rfl (hb hby d_jdk_42_method_149_39) rfl rfl (l' := #[.val (.ref a), .val (.ref c), .val (.int (0 : Int32)), .val (.int (1 : Int32)), .val .null, .val (.ref tt)]) rfl kq)
  show Win p e below _ T76 (mkF mt 41 #[.val (.ref a), .val (.ref c), .val (.int (0 : Int32)), .val (.int (1 : Int32)), .val .null, .val (.ref tt)] [])
  refine Win.st ?_ (fun tq kq => XS.aloadN X76.here hx rfl (hb hby d_jdk_42_method_149_41) rfl rfl kq)
  show Win p e below _ T76 (mkF mt 42 #[.val (.ref a), .val (.ref c), .val (.int (0 : Int32)), .val (.int (1 : Int32)), .val .null, .val (.ref tt)] [(.ref a)])
  refine Win.st ?_ (fun tq kq => XS.aload X76.here hx rfl (hb hby d_jdk_42_method_149_42) rfl rfl kq)
  show Win p e below _ T76 (mkF mt 44 #[.val (.ref a), .val (.ref c), .val (.int (0 : Int32)), .val (.int (1 : Int32)), .val .null, .val (.ref tt)] [(.ref tt), (.ref a)])
  refine Win.st ?_ (fun tq kq => XS.iloadN X76.here hx rfl (hb hby d_jdk_42_method_149_44) rfl kq)
  show Win p e below _ T76 (mkF mt 45 #[.val (.ref a), .val (.ref c), .val (.int (0 : Int32)), .val (.int (1 : Int32)), .val .null, .val (.ref tt)] [(.int (1 : Int32)), (.ref tt), (.ref a)])
  obtain ⟨v80, _, ⟨T80, L80, k80, n80⟩, -, X80, ⟨Lc80, hQ80, l80, y80, z80⟩, st80⟩ := Jvm.LawKit.callS X76 hx (y := (⟨"java/lang/StringUTF16", "coderFromArrayLen", "([BI)B"⟩ : MethodName)) hown (mvT hZ (hw _ (List.mem_of_getElem? (i := 81) rfl))) (mvT hZ (hw _ (List.mem_of_getElem? (i := 82) rfl))) (mvT hZ (hw _ (List.mem_of_getElem? (i := 76) rfl))) (mvT hZ (hw _ (List.mem_of_getElem? (i := 83) rfl))) (by decide) (backOf (W := 1) (rm_cfa_1 l Z a0 hw [] tt kt [(.int (x0.toInt8.toInt32))] h76 n0 Z78 V76) hZ (hw _ (List.mem_of_getElem? (i := 83) rfl)) (hw _ (List.mem_of_getElem? (i := 76) rfl)) (by decide) (by decide)) (g := (mkF mt 45 #[.val (.ref a), .val (.ref c), .val (.int (0 : Int32)), .val (.int (1 : Int32)), .val .null, .val (.ref tt)] [(.int (1 : Int32)), (.ref tt), (.ref a)])) rfl (by rw [hml]; rfl) (argsL := [(.ref tt), (.int (1 : Int32))]) (rest := [(.ref a)]) (lenOf pd_11 rfl) rfl (by show 2 * 0 + _ ≤ _; exact Nat.le_of_eq rfl) (hb hby d_jdk_42_method_149_45) (fun _ _ => ⟨rfl, e76, (by decide : 1 + 0 ≤ _), (by decide : 1 + 0 ≤ _)⟩)
  dsimp only [Pt.U, Pt.locs, Pt.cells, Pt.slots] at X80 l80 y80 z80 st80 hQ80
  subst y80 z80
  replace X80 : Stand p l e _ s mt args below meth cd T80 L80 1 1 := X80
  obtain ⟨h80, e80⟩ : ∃ z, T80.heap = z := ⟨_, rfl⟩
  rw [e80] at hQ80
  obtain ⟨rfl, Nq80, eh80⟩ := hQ80
  have N80 : Fr n0 L80 := by rw [l80]; exact Fr.app N76 Nq80
  rw [eh80] at e80
  refine Win.st ?_ st80
  show Win p e below _ T80 (mkF mt 48 #[.val (.ref a), .val (.ref c), .val (.int (0 : Int32)), .val (.int (1 : Int32)), .val .null, .val (.ref tt)] [(.int (0 : Int32)), (.ref a)])
  obtain ⟨T81, h81, X81, e81, W81, st81⟩ := putFN X80 hx hZ hown (hw _ (List.mem_of_getElem? (i := 29) rfl)) Via.refl e80 f77_31 f77_29 (Or.inr ⟨(hw _ (List.mem_of_getElem? (i := 25) rfl)), rfl, hnm⟩) (hw _ (List.mem_of_getElem? (i := 9) rfl)) (ty := .byte) (v' := (.int (0 : Int32))) (by decide) rfl (by decide) (g := (mkF mt 48 #[.val (.ref a), .val (.ref c), .val (.int (0 : Int32)), .val (.int (1 : Int32)), .val .null, .val (.ref tt)] [(.int (0 : Int32)), (.ref a)])) rfl rfl (hb hby d_jdk_42_method_149_48)
  obtain ⟨L81, X81, N81⟩ := own_hide X81 N80 ga
  have kp81 := Keep.of_wr W81
  have f81_61 := f77_30.other W81 (Or.inr (slot_ne (Or.inr (hw _ (List.mem_of_getElem? (i := 24) rfl))) (Or.inr (hw _ (List.mem_of_getElem? (i := 25) rfl))) (by decide) (t := (.array .byte)) (t' := .byte) (by decide) (by decide)))
  have fw81 := f77_31.same W81
  have f82_63 := f77_28.keep kp81 (allS ga all0)
  have f82_64 := f77_29.keep kp81
  have f82_65 := f77_32.keep kp81 (ninS nca nin0)
  have f82_66 := V76.keep kp81 (ninS (Ne.symm nat) nin0)
  have Z83 : n0 ≤ h81.size := Nat.le_trans Z78 kp81.1
  have K84 : Keep h0 h81 [a] := Keep.trans K79 kp81 (allS (Or.inl (List.mem_of_getElem? (i := 0) rfl)) all0)
  refine Win.st ?_ st81
  show Win p e below _ T81 (mkF mt 51 #[.val (.ref a), .val (.ref c), .val (.int (0 : Int32)), .val (.int (1 : Int32)), .val .null, .val (.ref tt)] [])
  refine Win.st ?_ (fun tq kq => XS.aloadN X81.here hx rfl (hb hby d_jdk_42_method_149_51) rfl rfl kq)
  show Win p e below _ T81 (mkF mt 52 #[.val (.ref a), .val (.ref c), .val (.int (0 : Int32)), .val (.int (1 : Int32)), .val .null, .val (.ref tt)] [(.ref a)])
  refine Win.st ?_ (fun tq kq => XS.aload X81.here hx rfl (hb hby d_jdk_42_method_149_52) rfl rfl kq)
  show Win p e below _ T81 (mkF mt 54 #[.val (.ref a), .val (.ref c), .val (.int (0 : Int32)), .val (.int (1 : Int32)), .val .null, .val (.ref tt)] [(.ref tt), (.ref a)])
  obtain ⟨T85, h85, X85, e85, W85, st85⟩ := putF X81 hx hZ hown (host := "") (Or.inl (hw _ (List.mem_of_getElem? (i := 28) rfl))) Via.refl e81 f81_61 f82_64 (Or.inr ⟨(hw _ (List.mem_of_getElem? (i := 24) rfl)), rfl, hnm⟩) (hw _ (List.mem_of_getElem? (i := 9) rfl)) (ty := (.array .byte)) (by decide) rfl rfl (g := (mkF mt 54 #[.val (.ref a), .val (.ref c), .val (.int (0 : Int32)), .val (.int (1 : Int32)), .val .null, .val (.ref tt)] [(.ref tt), (.ref a)])) rfl rfl (hb hby d_jdk_42_method_149_54)
  obtain ⟨L85, X85, N85⟩ := own_hide X85 N81 ga
  have kp85 := Keep.of_wr W85
  have fw85 := f81_61.same W85
  have f85_79 := fw81.other W85 (Or.inr (slot_ne (Or.inr (hw _ (List.mem_of_getElem? (i := 25) rfl))) (Or.inr (hw _ (List.mem_of_getElem? (i := 24) rfl))) (by decide) (t := .byte) (t' := (.array .byte)) (by decide) (by decide)))
  have f86_80 := f82_63.keep kp85 (allS ga all0)
  have f86_81 := f82_64.keep kp85
  have f86_82 := f82_65.keep kp85 (ninS nca nin0)
  have f86_83 := f82_66.keep kp85 (ninS (Ne.symm nat) nin0)
  have Z87 : n0 ≤ h85.size := Nat.le_trans Z83 kp85.1
  have K88 : Keep h0 h85 [a] := Keep.trans K84 kp85 (allS (Or.inl (List.mem_of_getElem? (i := 0) rfl)) all0)
  refine Win.st ?_ st85
  show Win p e below _ T85 (mkF mt 57 #[.val (.ref a), .val (.ref c), .val (.int (0 : Int32)), .val (.int (1 : Int32)), .val .null, .val (.ref tt)] [])
  exact Win.retV X85 hx hlk e85 hrt (hb hby d_jdk_42_method_149_57) (by decide) (by decide) ⟨rfl, N85, K88, f85_79, tt, kt, gt76, szt, fw85, f86_83⟩
theorem ef_si3_1 (mt : MethodId) (a : Addr) (c : Addr) : entryFrame mt #[(.ref a), (.ref c)] 2 = mkF mt 0 #[.val (.ref a), .val (.ref c)] [] := by first | (simp [entryFrame, mkF, argsToLocals, Value.category]; done) | rfl
def Q_si3_1 (Z : State) (a : Addr) (c : Addr) (cs : Int32) (kc : ClassId) (x0 : Int32) (h0 : Heap) (n0 : Nat) (v : Option Value) (h : Heap) (L : List Loc) : Prop := v = none ∧ Fr n0 L ∧ Keep h0 h [a] ∧ Fld Z h a "java/lang/String" "coder" "B" (.int (0 : Int32)) ∧ ∃ (t : Addr) (k : ClassId), n0 ≤ t ∧ h0.size ≤ t ∧ Fld Z h a "java/lang/String" "value" "[B" (.ref t) ∧ Arv Z h t k .byte (1 : Int32) [(.int (x0.toInt8.toInt32))] (.int (0 : Int32))
set_option maxRecDepth 65536 in
set_option maxHeartbeats 40000000 in
theorem rm_si3_1 (l : Launch) (Z : State) (a0 : Array Value) (hw : ∀ d ∈ tables_1, d.before a0 Z = true) (ws : List Jvm.Cond) (a : Addr) (c : Addr) (cs : Int32) (kc : ClassId) (x0 : Int32) (h0 : Heap) (n0 : Nat) (Z0 : n0 ≤ h0.size) (E : Exa Z h0 a "java/lang/String") (Fv : Fld Z h0 a "java/lang/String" "value" "[B" .null) (Fc : Fld Z h0 a "java/lang/String" "coder" "B" (.int (0 : Int32))) (ga : n0 ≤ a) (S0 : Sta Z Z.heap "java/lang/String" "COMPACT_STRINGS" "Z" (.int cs)) (hcs : ¬ cs = (0 : Int32)) (O : Old Z n0 h0) (VA : Arv Z h0 c kc .char (1 : Int32) [(.int x0)] (.int (0 : Int32))) (nca : c ≠ a) (hp0 : own_B x0) :
    MetFree l (⟨"java/lang/String", "<init>", "([C)V"⟩ : MethodName) (head1 (Jvm.Cond.code (⟨"java/lang/String", "<init>", "([C)V"⟩ : MethodName) jdk_42_method_3_code 2 none :: ws) ({ frames := 3, cells := 1, slots := 1, locals := 52 } : Room)) (fun aa UU => aa = #[(.ref a), (.ref c)] ∧ Z.Warmed39 UU.vm ∧ UU.heap = h0) (fun _ _ _ _ _ => True) (fun _ UU oo UU' => ∃ vv LL, oo = .returned vv ∧ Q_si3_1 Z a c cs kc x0 h0 n0 vv UU'.heap LL ∧ FrameEnd UU oo UU' LL ({ frames := 3, cells := 1, slots := 1, locals := 52 } : Room).cells ({ frames := 3, cells := 1, slots := 1, locals := 52 } : Room).slots) := by
  refine MetFree.of_bodySF (plainFor_of_name pn_1) hisR ?_
  intro p e s mt args below meth cd s₁ Bd hml0 hP hK
  obtain ⟨hA, hZ, hh⟩ := hP
  have hx := Bd.exec
  have hby := Bd.bytes
  have hml : cd.maxLocals = 2 := hml0
  have hown : s.vm.findClass "java/lang/String" = some mt.cls := findClass_of_methodNamed Bd.named
  have hnm := (name_of_methodNamed Bd.named Bd.method).1
  have hlk : meth.locks = false := BodyLoose.notSynchronized Bd
  have hrt := Bd.returns
  have X0 : Stand p l e ({ frames := 3, cells := 1, slots := 1, locals := 52 } : Room) s mt args below meth cd s₁ [] 0 0 := Stand.of_body Bd
  have e0 : s₁.heap = h0 := by rw [← hh, Bd.state]; rfl
  have N0 := Fr.nil n0
  show Win p e below (Ends s (Q_si3_1 Z a c cs kc x0 h0 n0) ({ frames := 3, cells := 1, slots := 1, locals := 52 } : Room).cells ({ frames := 3, cells := 1, slots := 1, locals := 52 } : Room).slots) s₁ (entryFrame mt args 2)
  rw [hA, ef_si3_1]
  refine Win.st ?_ (fun tq kq => XS.aloadN X0.here hx rfl (hb hby d_jdk_42_method_3_0) rfl rfl kq)
  show Win p e below _ s₁ (mkF mt 1 #[.val (.ref a), .val (.ref c)] [(.ref a)])
  refine Win.st ?_ (fun tq kq => XS.aloadN X0.here hx rfl (hb hby d_jdk_42_method_3_1) rfl rfl kq)
  show Win p e below _ s₁ (mkF mt 2 #[.val (.ref a), .val (.ref c)] [(.ref c), (.ref a)])
  refine Win.st ?_ (fun tq kq => XS.iconst X0.here hx rfl (hb hby d_jdk_42_method_3_2) kq)
  show Win p e below _ s₁ (mkF mt 3 #[.val (.ref a), .val (.ref c)] [(.int (0 : Int32)), (.ref c), (.ref a)])
  refine Win.st ?_ (fun tq kq => XS.aloadN X0.here hx rfl (hb hby d_jdk_42_method_3_3) rfl rfl kq)
  show Win p e below _ s₁ (mkF mt 4 #[.val (.ref a), .val (.ref c)] [(.ref c), (.int (0 : Int32)), (.ref c), (.ref a)])
  refine Win.st ?_ (own_alen (g := (mkF mt 4 #[.val (.ref a), .val (.ref c)] [(.ref c), (.int (0 : Int32)), (.ref c), (.ref a)])) X0 hx hZ e0 VA rfl rfl (hb hby d_jdk_42_method_3_4))
  show Win p e below _ s₁ (mkF mt 5 #[.val (.ref a), .val (.ref c)] [(.int (1 : Int32)), (.int (0 : Int32)), (.ref c), (.ref a)])
  refine Win.st ?_ (fun tq kq => XS.aconstNull X0.here hx rfl (hb hby d_jdk_42_method_3_5) kq)
  show Win p e below _ s₁ (mkF mt 6 #[.val (.ref a), .val (.ref c)] [.null, (.int (1 : Int32)), (.int (0 : Int32)), (.ref c), (.ref a)])
  obtain ⟨v89, _, ⟨T89, L89, k89, n89⟩, -, X89, ⟨Lc89, hQ89, l89, y89, z89⟩, st89⟩ := X0.specialBack hx (y := (⟨"java/lang/String", "<init>", "([CIILjava/lang/Void;)V"⟩ : MethodName)) rfl hown (mvT hZ (hw _ (List.mem_of_getElem? (i := 15) rfl))) (mvT hZ (hw _ (List.mem_of_getElem? (i := 16) rfl))) (mvT hZ (hw _ (List.mem_of_getElem? (i := 18) rfl))) (by decide) (backOf (W := 0) (rm_si6_1 l Z a0 hw [] a c cs kc x0 h0 n0 Z0 E Fv Fc ga S0 hcs O VA nca hp0) hZ (hw _ (List.mem_of_getElem? (i := 18) rfl)) (hw _ (List.mem_of_getElem? (i := 10) rfl)) (by decide) (by decide)) (g := (mkF mt 6 #[.val (.ref a), .val (.ref c)] [.null, (.int (1 : Int32)), (.int (0 : Int32)), (.ref c), (.ref a)])) rfl (by rw [hml]; rfl) (Steps.refl _) (a := a) (argsL := [(.ref c), (.int (0 : Int32)), (.int (1 : Int32)), .null]) (rest := []) (lenOf pd_1 rfl) rfl (by show 2 * 0 + _ ≤ _; exact Nat.le_of_eq rfl) (hb hby d_jdk_42_method_3_6) (fun _ _ => ⟨rfl, e0, (by decide : 0 + 1 ≤ _), (by decide : 0 + 1 ≤ _)⟩)
  dsimp only [Pt.U, Pt.locs, Pt.cells, Pt.slots] at X89 l89 y89 z89 st89 hQ89
  subst y89 z89
  replace X89 : Stand p l e _ s mt args below meth cd T89 L89 1 1 := X89
  obtain ⟨h89, e89⟩ : ∃ z, T89.heap = z := ⟨_, rfl⟩
  rw [e89] at hQ89
  obtain ⟨rfl, Nq89, K89, fc89, tt, kt, gt89, zt89, fv89, V89⟩ := hQ89
  have N89 : Fr n0 L89 := by rw [l89]; exact Fr.app N0 Nq89
  have f90_20 := O.keep K89 (allS ga all0)
  have f90_21 := E.keep K89
  have f90_22 := VA.keep K89 (ninS nca nin0)
  have Z91 : n0 ≤ h89.size := Nat.le_trans Z0 K89.1
  have K92 : Keep h0 h89 [a] := Keep.trans (Keep.refl h0 [a]) K89 (allS (Or.inl (List.mem_of_getElem? (i := 0) rfl)) all0)
  refine Win.tr ?_ st89
  show Win p e below _ T89 (mkF mt 9 #[.val (.ref a), .val (.ref c)] [])
  exact Win.retV X89 hx hlk e89 hrt (hb hby d_jdk_42_method_3_9) (by decide) (by decide) ⟨rfl, N89, K92, fc89, tt, kt, gt89, zt89, fv89, V89⟩
theorem d_method_4_15 : decode method_4_code 15 = .ok (.iload_n 0, 1) := by decide +kernel
theorem d_method_4_16 : decode method_4_code 16 = .ok (.iconst 1, 1) := by decide +kernel
theorem d_method_4_17 : decode method_4_code 17 = .ok (.if_icmp .ne 18, 3) := by decide +kernel
theorem d_method_4_20 : decode method_4_code 20 = .ok (.new 24, 3) := by decide +kernel
theorem d_method_4_23 : decode method_4_code 23 = .ok (.dup, 1) := by decide +kernel
theorem d_method_4_24 : decode method_4_code 24 = .ok (.iconst 1, 1) := by decide +kernel
theorem d_method_4_25 : decode method_4_code 25 = .ok (.newarray .char, 2) := by decide +kernel
theorem d_method_4_27 : decode method_4_code 27 = .ok (.dup, 1) := by decide +kernel
theorem d_method_4_28 : decode method_4_code 28 = .ok (.iconst 0, 1) := by decide +kernel
theorem d_method_4_29 : decode method_4_code 29 = .ok (.iload_n 1, 1) := by decide +kernel
theorem d_method_4_30 : decode method_4_code 30 = .ok (.castore, 1) := by decide +kernel
theorem d_method_4_31 : decode method_4_code 31 = .ok (.invokespecial 26, 3) := by decide +kernel
theorem d_method_4_34 : decode method_4_code 34 = .ok (.areturn, 1) := by decide +kernel
theorem ef_make_1 (mt : MethodId) (x0 : Int32) (x1 : Int32) (x2 : Int32) (x3 : Int32) : entryFrame mt #[(.int (1 : Int32)), (.int x0), (.int x1), (.int x2), (.int x3)] 5 = mkF mt 0 #[.val (.int (1 : Int32)), .val (.int x0), .val (.int x1), .val (.int x2), .val (.int x3)] [] := by first | (simp [entryFrame, mkF, argsToLocals, Value.category]; done) | rfl
def Q_make_1 (Z : State) (x0 : Int32) (x1 : Int32) (x2 : Int32) (x3 : Int32) (cs : Int32) (h0 : Heap) (n0 : Nat) (v : Option Value) (h : Heap) (L : List Loc) : Prop := ∃ r : Addr, v = some (.ref r) ∧ Fr n0 L ∧ n0 ≤ h.size ∧ Old Z n0 h ∧ ∃ (t : Addr) (k : ClassId), Exa Z h r "java/lang/String" ∧ Fld Z h r "java/lang/String" "value" "[B" (.ref t) ∧ Fld Z h r "java/lang/String" "coder" "B" (.int (0 : Int32)) ∧ Arv Z h t k .byte (1 : Int32) [(.int (x0.toInt8.toInt32))] (.int (0 : Int32))
set_option maxRecDepth 65536 in
set_option maxHeartbeats 40000000 in
theorem rm_make_1 (l : Launch) (Z : State) (a0 : Array Value) (hw : ∀ d ∈ tables_1, d.before a0 Z = true) (ws : List Jvm.Cond) (x0 : Int32) (x1 : Int32) (x2 : Int32) (x3 : Int32) (cs : Int32) (h0 : Heap) (n0 : Nat) (Z0 : n0 ≤ h0.size) (S0 : Sta Z Z.heap "java/lang/String" "COMPACT_STRINGS" "Z" (.int cs)) (hcs : ¬ cs = (0 : Int32)) (O : Old Z n0 h0) (hp0 : own_B x0) :
    MetFree l (⟨"com/example/foldkey/foldkey/store/TokenHoldsSystemPinLaw", "make", "(ICCCC)Ljava/lang/String;"⟩ : MethodName) (head1 (Jvm.Cond.code (⟨"com/example/foldkey/foldkey/store/TokenHoldsSystemPinLaw", "make", "(ICCCC)Ljava/lang/String;"⟩ : MethodName) method_4_code 5 (some (.object "java/lang/String")) :: ws) ({ frames := 4, cells := 3, slots := 6, locals := 66 } : Room)) (fun aa UU => aa = #[(.int (1 : Int32)), (.int x0), (.int x1), (.int x2), (.int x3)] ∧ Z.Warmed39 UU.vm ∧ UU.heap = h0) (fun _ _ _ _ _ => True) (fun _ UU oo UU' => ∃ vv LL, oo = .returned vv ∧ Q_make_1 Z x0 x1 x2 x3 cs h0 n0 vv UU'.heap LL ∧ FrameEnd UU oo UU' LL ({ frames := 4, cells := 3, slots := 6, locals := 66 } : Room).cells ({ frames := 4, cells := 3, slots := 6, locals := 66 } : Room).slots) := by
  refine MetFree.of_bodySF (plainFor_of_name pn_2) hisR ?_
  intro p e s mt args below meth cd s₁ Bd hml0 hP hK
  obtain ⟨hA, hZ, hh⟩ := hP
  have hx := Bd.exec
  have hby := Bd.bytes
  have hml : cd.maxLocals = 5 := hml0
  have hown : s.vm.findClass "com/example/foldkey/foldkey/store/TokenHoldsSystemPinLaw" = some mt.cls := findClass_of_methodNamed Bd.named
  have hnm := (name_of_methodNamed Bd.named Bd.method).1
  have hlk : meth.locks = false := BodyLoose.notSynchronized Bd
  have hrt := Bd.returns
  have X0 : Stand p l e ({ frames := 4, cells := 3, slots := 6, locals := 66 } : Room) s mt args below meth cd s₁ [] 0 0 := Stand.of_body Bd
  have e0 : s₁.heap = h0 := by rw [← hh, Bd.state]; rfl
  have N0 := Fr.nil n0
  show Win p e below (Ends s (Q_make_1 Z x0 x1 x2 x3 cs h0 n0) ({ frames := 4, cells := 3, slots := 6, locals := 66 } : Room).cells ({ frames := 4, cells := 3, slots := 6, locals := 66 } : Room).slots) s₁ (entryFrame mt args 5)
  rw [hA, ef_make_1]
  refine Win.st ?_ (fun tq kq => XS.iloadN X0.here hx rfl (hb hby d_method_4_0) rfl kq)
  show Win p e below _ s₁ (mkF mt 1 #[.val (.int (1 : Int32)), .val (.int x0), .val (.int x1), .val (.int x2), .val (.int x3)] [(.int (1 : Int32))])
  refine Win.st ?_ (fun tq kq => XS.ifYes X0.here hx rfl (pc0 := 1) (pc' := 15) rfl (hb hby d_method_4_1) rfl ((if0 _ _).trans (feq (by decide : ¬ ((1 : Int32) = (0 : Int32)))).2) (by decide) (by decide) kq)
  show Win p e below _ s₁ (mkF mt 15 #[.val (.int (1 : Int32)), .val (.int x0), .val (.int x1), .val (.int x2), .val (.int x3)] [])
  refine Win.st ?_ (fun tq kq => XS.iloadN X0.here hx rfl (hb hby d_method_4_15) rfl kq)
  show Win p e below _ s₁ (mkF mt 16 #[.val (.int (1 : Int32)), .val (.int x0), .val (.int x1), .val (.int x2), .val (.int x3)] [(.int (1 : Int32))])
  refine Win.st ?_ (fun tq kq => XS.iconst X0.here hx rfl (hb hby d_method_4_16) kq)
  show Win p e below _ s₁ (mkF mt 17 #[.val (.int (1 : Int32)), .val (.int x0), .val (.int x1), .val (.int x2), .val (.int x3)] [(.int (1 : Int32)), (.int (1 : Int32))])
  refine Win.st ?_ (fun tq kq => XS.icmpNo X0.here hx rfl (hb hby d_method_4_17) rfl (teq (rfl : (1 : Int32) = (1 : Int32))).2 kq)
  show Win p e below _ s₁ (mkF mt 20 #[.val (.int (1 : Int32)), .val (.int x0), .val (.int x1), .val (.int x2), .val (.int x3)] [])
  obtain ⟨T93, h93, X93, e93, E93, A93, D93, -, st93⟩ := newO X0 hx hZ hown (hw _ (List.mem_of_getElem? (i := 8) rfl)) (hw _ (List.mem_of_getElem? (i := 9) rfl)) (hw _ (List.mem_of_getElem? (i := 10) rfl)) e0 (g := (mkF mt 20 #[.val (.int (1 : Int32)), .val (.int x0), .val (.int x1), .val (.int x2), .val (.int x3)] [])) rfl (hb hby d_method_4_20) (by decide) (by decide)
  obtain ⟨b93, gq93⟩ : ∃ z, z = h0.size := ⟨_, rfl⟩
  rw [← gq93] at A93 D93 st93
  have g94 : n0 ≤ b93 := own_newle Z0 gq93
  have ke93 := own_kext E93
  replace X93 : Stand p l e _ s mt args below meth cd T93 _ 1 4 := X93
  have f95_16 := O.keep ke93 all0
  have Z96 : n0 ≤ h93.size := Nat.le_trans Z0 ke93.1
  have fn93_value : Fld Z h93 b93 "java/lang/String" "value" "[B" .null := D93 (Or.inr (hw _ (List.mem_of_getElem? (i := 24) rfl))) (ty := (.array .byte)) (by decide)
  have fn93_coder : Fld Z h93 b93 "java/lang/String" "coder" "B" (.int (0 : Int32)) := D93 (Or.inr (hw _ (List.mem_of_getElem? (i := 25) rfl))) (ty := .byte) (by decide)
  refine Win.st ?_ st93
  show Win p e below _ T93 (mkF mt 23 #[.val (.int (1 : Int32)), .val (.int x0), .val (.int x1), .val (.int x2), .val (.int x3)] [(.ref b93)])
  refine Win.st ?_ (fun tq kq => XS.dup X93.here hx rfl (hb hby d_method_4_23) rfl rfl kq)
  show Win p e below _ T93 (mkF mt 24 #[.val (.int (1 : Int32)), .val (.int x0), .val (.int x1), .val (.int x2), .val (.int x3)] [(.ref b93), (.ref b93)])
  refine Win.st ?_ (fun tq kq => XS.iconst X93.here hx rfl (hb hby d_method_4_24) kq)
  show Win p e below _ T93 (mkF mt 25 #[.val (.int (1 : Int32)), .val (.int x0), .val (.int x1), .val (.int x2), .val (.int x3)] [(.int (1 : Int32)), (.ref b93), (.ref b93)])
  obtain ⟨T97, h97, k97, X97, e97, E97, A97, st97⟩ := newP X93 hx hZ (hw _ (List.mem_of_getElem? (i := 11) rfl)) e93 (g := (mkF mt 25 #[.val (.int (1 : Int32)), .val (.int x0), .val (.int x1), .val (.int x2), .val (.int x3)] [(.int (1 : Int32)), (.ref b93), (.ref b93)])) rfl (hb hby d_method_4_25) rfl (by decide) (cap := 1) (by decide) (by decide) (by decide) (by decide)
  obtain ⟨b97, gq97⟩ : ∃ z, z = h93.size := ⟨_, rfl⟩
  rw [← gq97] at A97 st97
  have ne98 : b93 ≠ b97 := own_new gq97 A93.lt
  have g99 : n0 ≤ b97 := own_newle Z96 gq97
  have ke97 := own_kext E97
  replace X97 : Stand p l e _ s mt args below meth cd T97 _ 2 5 := X97
  have f100_33 := f95_16.keep ke97 all0
  have f100_34 := A93.keep ke97
  have f100_35 := fn93_value.keep ke97 nin0
  have f100_36 := fn93_coder.keep ke97 nin0
  have Z101 : n0 ≤ h97.size := Nat.le_trans Z96 ke97.1
  have V97 : Arv Z h97 b97 k97 .char (1 : Int32) [(.int (0 : Int32))] (.int (0 : Int32)) := (Arv.new A97 (by decide)).pad (pad_rep [] (.int (0 : Int32)) 1)
  refine Win.st ?_ st97
  show Win p e below _ T97 (mkF mt 27 #[.val (.int (1 : Int32)), .val (.int x0), .val (.int x1), .val (.int x2), .val (.int x3)] [(.ref b97), (.ref b93), (.ref b93)])
  refine Win.st ?_ (fun tq kq => XS.dup X97.here hx rfl (hb hby d_method_4_27) rfl rfl kq)
  show Win p e below _ T97 (mkF mt 28 #[.val (.int (1 : Int32)), .val (.int x0), .val (.int x1), .val (.int x2), .val (.int x3)] [(.ref b97), (.ref b97), (.ref b93), (.ref b93)])
  refine Win.st ?_ (fun tq kq => XS.iconst X97.here hx rfl (hb hby d_method_4_28) kq)
  show Win p e below _ T97 (mkF mt 29 #[.val (.int (1 : Int32)), .val (.int x0), .val (.int x1), .val (.int x2), .val (.int x3)] [(.int (0 : Int32)), (.ref b97), (.ref b97), (.ref b93), (.ref b93)])
  refine Win.st ?_ (fun tq kq => XS.iloadN X97.here hx rfl (hb hby d_method_4_29) rfl kq)
  show Win p e below _ T97 (mkF mt 30 #[.val (.int (1 : Int32)), .val (.int x0), .val (.int x1), .val (.int x2), .val (.int x3)] [(.int x0), (.int (0 : Int32)), (.ref b97), (.ref b97), (.ref b93), (.ref b93)])
  obtain ⟨T102, h102, L102, X102, N102, e102, kp102, V102, st102⟩ := own_cast (g := (mkF mt 30 #[.val (.int (1 : Int32)), .val (.int x0), .val (.int x1), .val (.int x2), .val (.int x3)] [(.int x0), (.int (0 : Int32)), (.ref b97), (.ref b97), (.ref b93), (.ref b93)])) X97 hx hZ e97 N0 g99 V97 (j := (0 : Int32)) (by decide) (by decide) (i := 0) rfl (by simp) rfl rfl (hb hby d_method_4_30)
  rw [own_char hp0] at V102
  replace V102 : Arv Z h102 b97 k97 .char (1 : Int32) ([(.int x0)]) (.int (0 : Int32)) := V102
  have f103_50 := f100_33.keep kp102 (allS g99 all0)
  have f103_51 := f100_34.keep kp102
  have f103_52 := f100_35.keep kp102 (ninS ne98 nin0)
  have f103_53 := f100_36.keep kp102 (ninS ne98 nin0)
  have Z104 : n0 ≤ h102.size := Nat.le_trans Z101 kp102.1
  refine Win.st ?_ st102
  show Win p e below _ T102 (mkF mt 31 #[.val (.int (1 : Int32)), .val (.int x0), .val (.int x1), .val (.int x2), .val (.int x3)] [(.ref b97), (.ref b93), (.ref b93)])
  obtain ⟨v105, _, ⟨T105, L105, k105, n105⟩, -, X105, ⟨Lc105, hQ105, l105, y105, z105⟩, st105⟩ := X102.specialBack hx (y := (⟨"java/lang/String", "<init>", "([C)V"⟩ : MethodName)) rfl hown (mvT hZ (hw _ (List.mem_of_getElem? (i := 12) rfl))) (mvT hZ (hw _ (List.mem_of_getElem? (i := 13) rfl))) (mvT hZ (hw _ (List.mem_of_getElem? (i := 14) rfl))) (by decide) (backOf (W := 1) (rm_si3_1 l Z a0 hw [] b93 b97 cs k97 x0 h102 n0 Z104 f103_51 f103_52 f103_53 g94 S0 hcs f103_50 V102 (Ne.symm ne98) hp0) hZ (hw _ (List.mem_of_getElem? (i := 14) rfl)) (hw _ (List.mem_of_getElem? (i := 10) rfl)) (by decide) (by decide)) (g := (mkF mt 31 #[.val (.int (1 : Int32)), .val (.int x0), .val (.int x1), .val (.int x2), .val (.int x3)] [(.ref b97), (.ref b93), (.ref b93)])) rfl (by rw [hml]; rfl) (Steps.refl _) (a := b93) (argsL := [(.ref b97)]) (rest := [(.ref b93)]) (lenOf pd_2 rfl) rfl (by show 2 * 0 + _ ≤ _; exact Nat.le_of_eq rfl) (hb hby d_method_4_31) (fun _ _ => ⟨rfl, e102, (by decide : 2 + 1 ≤ _), (by decide : 5 + 1 ≤ _)⟩)
  dsimp only [Pt.U, Pt.locs, Pt.cells, Pt.slots] at X105 l105 y105 z105 st105 hQ105
  subst y105 z105
  replace X105 : Stand p l e _ s mt args below meth cd T105 L105 3 6 := X105
  obtain ⟨h105, e105⟩ : ∃ z, T105.heap = z := ⟨_, rfl⟩
  rw [e105] at hQ105
  obtain ⟨rfl, Nq105, K105, fc105, tt, kt, gt105, zt105, fv105, V105⟩ := hQ105
  have N105 : Fr n0 L105 := by rw [l105]; exact Fr.app N102 Nq105
  have f106_65 := f103_50.keep K105 (allS g94 all0)
  have f106_66 := f103_51.keep K105
  have f106_67 := V102.keep K105 (ninS (Ne.symm ne98) nin0)
  have Z107 : n0 ≤ h105.size := Nat.le_trans Z104 K105.1
  refine Win.tr ?_ st105
  show Win p e below _ T105 (mkF mt 34 #[.val (.int (1 : Int32)), .val (.int x0), .val (.int x1), .val (.int x2), .val (.int x3)] [(.ref b93)])
  exact Win.ret X105 hx hlk e105 hrt rfl (Or.inr (Or.inr (Or.inr (Or.inr ⟨rfl, rfl, rfl⟩)))) (hb hby d_method_4_34) (by decide) (by decide) ⟨_, rfl, N105, Z107, f106_65, tt, kt, f106_66, fv105, fc105, V105⟩
theorem d_jdk_43_method_23_0 : decode jdk_43_method_23_code 0 = .ok (.iload_n 1, 1) := by decide +kernel
theorem d_jdk_43_method_23_1 : decode jdk_43_method_23_code 1 = .ok (.i2b, 1) := by decide +kernel
theorem d_jdk_43_method_23_2 : decode jdk_43_method_23_code 2 = .ok (.istore 4, 2) := by decide +kernel
theorem d_jdk_43_method_23_4 : decode jdk_43_method_23_code 4 = .ok (.iload_n 2, 1) := by decide +kernel
theorem d_jdk_43_method_23_5 : decode jdk_43_method_23_code 5 = .ok (.istore 5, 2) := by decide +kernel
theorem d_jdk_43_method_23_7 : decode jdk_43_method_23_code 7 = .ok (.iload 5, 2) := by decide +kernel
theorem d_jdk_43_method_23_9 : decode jdk_43_method_23_code 9 = .ok (.iload_n 3, 1) := by decide +kernel
theorem d_jdk_43_method_23_10 : decode jdk_43_method_23_code 10 = .ok (.if_icmp .ge 21, 3) := by decide +kernel
theorem d_jdk_43_method_23_13 : decode jdk_43_method_23_code 13 = .ok (.aload_n 0, 1) := by decide +kernel
theorem d_jdk_43_method_23_14 : decode jdk_43_method_23_code 14 = .ok (.iload 5, 2) := by decide +kernel
theorem d_jdk_43_method_23_16 : decode jdk_43_method_23_code 16 = .ok (.baload, 1) := by decide +kernel
theorem d_jdk_43_method_23_17 : decode jdk_43_method_23_code 17 = .ok (.iload 4, 2) := by decide +kernel
theorem d_jdk_43_method_23_19 : decode jdk_43_method_23_code 19 = .ok (.if_icmp .ne 6, 3) := by decide +kernel
theorem d_jdk_43_method_23_22 : decode jdk_43_method_23_code 22 = .ok (.iload 5, 2) := by decide +kernel
theorem d_jdk_43_method_23_24 : decode jdk_43_method_23_code 24 = .ok (.ireturn, 1) := by decide +kernel
theorem d_jdk_43_method_23_25 : decode jdk_43_method_23_code 25 = .ok (.iinc 5 1, 3) := by decide +kernel
theorem d_jdk_43_method_23_28 : decode jdk_43_method_23_code 28 = .ok (.goto (-21), 3) := by decide +kernel
theorem d_jdk_43_method_23_31 : decode jdk_43_method_23_code 31 = .ok (.iconst (-1), 1) := by decide +kernel
theorem d_jdk_43_method_23_32 : decode jdk_43_method_23_code 32 = .ok (.ireturn, 1) := by decide +kernel
theorem ef_ioc_1 (mt : MethodId) (b : Addr) : entryFrame mt #[(.ref b), (.int (124 : Int32)), (.int (0 : Int32)), (.int (1 : Int32))] 6 = mkF mt 0 #[.val (.ref b), .val (.int (124 : Int32)), .val (.int (0 : Int32)), .val (.int (1 : Int32)), .unset, .unset] [] := by first | (simp [entryFrame, mkF, argsToLocals, Value.category]; done) | rfl
def Q_ioc_1 (Z : State) (b : Addr) (kb : ClassId) (x0 : Int32) (h0 : Heap) (n0 : Nat) (v : Option Value) (h : Heap) (L : List Loc) : Prop := ∃ r : Int32, v = some (.int r) ∧ Fr n0 L ∧ h = h0 ∧ (r < 0 ↔ (¬ (x0 = (124 : Int32))))
set_option maxRecDepth 65536 in
set_option maxHeartbeats 40000000 in
theorem rm_ioc_1 (l : Launch) (Z : State) (a0 : Array Value) (hw : ∀ d ∈ tables_1, d.before a0 Z = true) (ws : List Jvm.Cond) (b : Addr) (kb : ClassId) (x0 : Int32) (h0 : Heap) (n0 : Nat) (Z0 : n0 ≤ h0.size) (VB : Arv Z h0 b kb .byte (1 : Int32) [(.int (x0.toInt8.toInt32))] (.int (0 : Int32))) (hp0 : own_B x0) :
    MetFree l (⟨"java/lang/StringLatin1", "indexOfChar", "([BIII)I"⟩ : MethodName) (head1 (Jvm.Cond.code (⟨"java/lang/StringLatin1", "indexOfChar", "([BIII)I"⟩ : MethodName) jdk_43_method_23_code 6 (some .int) :: ws) ({ frames := 0, cells := 0, slots := 0, locals := 0 } : Room)) (fun aa UU => aa = #[(.ref b), (.int (124 : Int32)), (.int (0 : Int32)), (.int (1 : Int32))] ∧ Z.Warmed39 UU.vm ∧ UU.heap = h0) (fun _ _ _ _ _ => True) (fun _ UU oo UU' => ∃ vv LL, oo = .returned vv ∧ Q_ioc_1 Z b kb x0 h0 n0 vv UU'.heap LL ∧ FrameEnd UU oo UU' LL ({ frames := 0, cells := 0, slots := 0, locals := 0 } : Room).cells ({ frames := 0, cells := 0, slots := 0, locals := 0 } : Room).slots) := by
  refine MetFree.of_bodySF (plainFor_of_name pn_0) hisR ?_
  intro p e s mt args below meth cd s₁ Bd hml0 hP hK
  obtain ⟨hA, hZ, hh⟩ := hP
  have hx := Bd.exec
  have hby := Bd.bytes
  have hml : cd.maxLocals = 6 := hml0
  have hown : s.vm.findClass "java/lang/StringLatin1" = some mt.cls := findClass_of_methodNamed Bd.named
  have hnm := (name_of_methodNamed Bd.named Bd.method).1
  have hlk : meth.locks = false := BodyLoose.notSynchronized Bd
  have hrt := Bd.returns
  have X0 : Stand p l e ({ frames := 0, cells := 0, slots := 0, locals := 0 } : Room) s mt args below meth cd s₁ [] 0 0 := Stand.of_body Bd
  have e0 : s₁.heap = h0 := by rw [← hh, Bd.state]; rfl
  have N0 := Fr.nil n0
  show Win p e below (Ends s (Q_ioc_1 Z b kb x0 h0 n0) ({ frames := 0, cells := 0, slots := 0, locals := 0 } : Room).cells ({ frames := 0, cells := 0, slots := 0, locals := 0 } : Room).slots) s₁ (entryFrame mt args 6)
  rw [hA, ef_ioc_1]
  refine Win.st ?_ (fun tq kq => XS.iloadN X0.here hx rfl (hb hby d_jdk_43_method_23_0) rfl kq)
  show Win p e below _ s₁ (mkF mt 1 #[.val (.ref b), .val (.int (124 : Int32)), .val (.int (0 : Int32)), .val (.int (1 : Int32)), .unset, .unset] [(.int (124 : Int32))])
  refine Win.st ?_ (fun tq kq => XS.i2b X0.here hx rfl (hb hby d_jdk_43_method_23_1) rfl kq)
  show Win p e below _ s₁ (mkF mt 2 #[.val (.ref b), .val (.int (124 : Int32)), .val (.int (0 : Int32)), .val (.int (1 : Int32)), .unset, .unset] [(.int ((124 : Int32).toInt8.toInt32))])
  rw [show ((124 : Int32).toInt8.toInt32) = (124 : Int32) from by decide]
  show Win p e below _ s₁ (mkF mt 2 #[.val (.ref b), .val (.int (124 : Int32)), .val (.int (0 : Int32)), .val (.int (1 : Int32)), .unset, .unset] [(.int (124 : Int32))])
  refine Win.st ?_ (fun tq kq => XS.istore X0.here hx rfl (hb hby d_jdk_43_method_23_2) rfl (l' := #[.val (.ref b), .val (.int (124 : Int32)), .val (.int (0 : Int32)), .val (.int (1 : Int32)), .val (.int (124 : Int32)), .unset]) rfl kq)
  show Win p e below _ s₁ (mkF mt 4 #[.val (.ref b), .val (.int (124 : Int32)), .val (.int (0 : Int32)), .val (.int (1 : Int32)), .val (.int (124 : Int32)), .unset] [])
  refine Win.st ?_ (fun tq kq => XS.iloadN X0.here hx rfl (hb hby d_jdk_43_method_23_4) rfl kq)
  show Win p e below _ s₁ (mkF mt 5 #[.val (.ref b), .val (.int (124 : Int32)), .val (.int (0 : Int32)), .val (.int (1 : Int32)), .val (.int (124 : Int32)), .unset] [(.int (0 : Int32))])
  refine Win.st ?_ (fun tq kq => XS.istore X0.here hx rfl (hb hby d_jdk_43_method_23_5) rfl (l' := #[.val (.ref b), .val (.int (124 : Int32)), .val (.int (0 : Int32)), .val (.int (1 : Int32)), .val (.int (124 : Int32)), .val (.int (0 : Int32))]) rfl kq)
  show Win p e below _ s₁ (mkF mt 7 #[.val (.ref b), .val (.int (124 : Int32)), .val (.int (0 : Int32)), .val (.int (1 : Int32)), .val (.int (124 : Int32)), .val (.int (0 : Int32))] [])
  refine Win.st ?_ (fun tq kq => XS.iload X0.here hx rfl (hb hby d_jdk_43_method_23_7) rfl kq)
  show Win p e below _ s₁ (mkF mt 9 #[.val (.ref b), .val (.int (124 : Int32)), .val (.int (0 : Int32)), .val (.int (1 : Int32)), .val (.int (124 : Int32)), .val (.int (0 : Int32))] [(.int (0 : Int32))])
  refine Win.st ?_ (fun tq kq => XS.iloadN X0.here hx rfl (hb hby d_jdk_43_method_23_9) rfl kq)
  show Win p e below _ s₁ (mkF mt 10 #[.val (.ref b), .val (.int (124 : Int32)), .val (.int (0 : Int32)), .val (.int (1 : Int32)), .val (.int (124 : Int32)), .val (.int (0 : Int32))] [(.int (1 : Int32)), (.int (0 : Int32))])
  refine Win.st ?_ (fun tq kq => XS.icmpNo X0.here hx rfl (hb hby d_jdk_43_method_23_10) rfl (tlt (by decide : (0 : Int32) < (1 : Int32))).2.1 kq)
  show Win p e below _ s₁ (mkF mt 13 #[.val (.ref b), .val (.int (124 : Int32)), .val (.int (0 : Int32)), .val (.int (1 : Int32)), .val (.int (124 : Int32)), .val (.int (0 : Int32))] [])
  refine Win.st ?_ (fun tq kq => XS.aloadN X0.here hx rfl (hb hby d_jdk_43_method_23_13) rfl rfl kq)
  show Win p e below _ s₁ (mkF mt 14 #[.val (.ref b), .val (.int (124 : Int32)), .val (.int (0 : Int32)), .val (.int (1 : Int32)), .val (.int (124 : Int32)), .val (.int (0 : Int32))] [(.ref b)])
  refine Win.st ?_ (fun tq kq => XS.iload X0.here hx rfl (hb hby d_jdk_43_method_23_14) rfl kq)
  show Win p e below _ s₁ (mkF mt 16 #[.val (.ref b), .val (.int (124 : Int32)), .val (.int (0 : Int32)), .val (.int (1 : Int32)), .val (.int (124 : Int32)), .val (.int (0 : Int32))] [(.int (0 : Int32)), (.ref b)])
  refine Win.st ?_ (own_bald (g := (mkF mt 16 #[.val (.ref b), .val (.int (124 : Int32)), .val (.int (0 : Int32)), .val (.int (1 : Int32)), .val (.int (124 : Int32)), .val (.int (0 : Int32))] [(.int (0 : Int32)), (.ref b)])) X0 hx hZ e0 VB (j := (0 : Int32)) (v := (.int (x0.toInt8.toInt32))) (by decide) (by decide) rfl rfl rfl (hb hby d_jdk_43_method_23_16))
  show Win p e below _ s₁ (mkF mt 17 #[.val (.ref b), .val (.int (124 : Int32)), .val (.int (0 : Int32)), .val (.int (1 : Int32)), .val (.int (124 : Int32)), .val (.int (0 : Int32))] [(.int (x0.toInt8.toInt32))])
  refine Win.st ?_ (fun tq kq => XS.iload X0.here hx rfl (hb hby d_jdk_43_method_23_17) rfl kq)
  show Win p e below _ s₁ (mkF mt 19 #[.val (.ref b), .val (.int (124 : Int32)), .val (.int (0 : Int32)), .val (.int (1 : Int32)), .val (.int (124 : Int32)), .val (.int (0 : Int32))] [(.int (124 : Int32)), (.int (x0.toInt8.toInt32))])
  by_cases hc19 : (x0.toInt8.toInt32) = (124 : Int32)
  · refine Win.st ?_ (fun tq kq => XS.icmpNo X0.here hx rfl (hb hby d_jdk_43_method_23_19) rfl (teq hc19).2 kq)
    show Win p e below _ s₁ (mkF mt 22 #[.val (.ref b), .val (.int (124 : Int32)), .val (.int (0 : Int32)), .val (.int (1 : Int32)), .val (.int (124 : Int32)), .val (.int (0 : Int32))] [])
    refine Win.st ?_ (fun tq kq => XS.iload X0.here hx rfl (hb hby d_jdk_43_method_23_22) rfl kq)
    show Win p e below _ s₁ (mkF mt 24 #[.val (.ref b), .val (.int (124 : Int32)), .val (.int (0 : Int32)), .val (.int (1 : Int32)), .val (.int (124 : Int32)), .val (.int (0 : Int32))] [(.int (0 : Int32))])
    exact Win.ret X0 hx hlk e0 hrt rfl (Or.inl ⟨rfl, Or.inl rfl, _, rfl⟩) (hb hby d_jdk_43_method_23_24) (by decide) (by decide) ⟨_, rfl, N0, rfl, ⟨fun q => absurd q (by decide), fun q => absurd (own_b124 hp0 hc19) (q)⟩⟩
  · refine Win.st ?_ (fun tq kq => XS.icmpYes X0.here hx rfl (pc0 := 19) (pc' := 25) rfl (hb hby d_jdk_43_method_23_19) rfl (feq hc19).2 (by decide) (by decide) kq)
    show Win p e below _ s₁ (mkF mt 25 #[.val (.ref b), .val (.int (124 : Int32)), .val (.int (0 : Int32)), .val (.int (1 : Int32)), .val (.int (124 : Int32)), .val (.int (0 : Int32))] [])
    refine Win.st ?_ (fun tq kq => XS.iinc X0.here hx rfl (hb hby d_jdk_43_method_23_25) rfl (l' := #[.val (.ref b), .val (.int (124 : Int32)), .val (.int (0 : Int32)), .val (.int (1 : Int32)), .val (.int (124 : Int32)), .val (.int (1 : Int32))]) rfl kq)
    show Win p e below _ s₁ (mkF mt 28 #[.val (.ref b), .val (.int (124 : Int32)), .val (.int (0 : Int32)), .val (.int (1 : Int32)), .val (.int (124 : Int32)), .val (.int (1 : Int32))] [])
    refine Win.st ?_ (fun tq kq => XS.goto X0.here hx rfl (pc0 := 28) (pc' := 7) rfl (hb hby d_jdk_43_method_23_28) (by decide) (by decide) kq)
    show Win p e below _ s₁ (mkF mt 7 #[.val (.ref b), .val (.int (124 : Int32)), .val (.int (0 : Int32)), .val (.int (1 : Int32)), .val (.int (124 : Int32)), .val (.int (1 : Int32))] [])
    refine Win.st ?_ (fun tq kq => XS.iload X0.here hx rfl (hb hby d_jdk_43_method_23_7) rfl kq)
    show Win p e below _ s₁ (mkF mt 9 #[.val (.ref b), .val (.int (124 : Int32)), .val (.int (0 : Int32)), .val (.int (1 : Int32)), .val (.int (124 : Int32)), .val (.int (1 : Int32))] [(.int (1 : Int32))])
    refine Win.st ?_ (fun tq kq => XS.iloadN X0.here hx rfl (hb hby d_jdk_43_method_23_9) rfl kq)
    show Win p e below _ s₁ (mkF mt 10 #[.val (.ref b), .val (.int (124 : Int32)), .val (.int (0 : Int32)), .val (.int (1 : Int32)), .val (.int (124 : Int32)), .val (.int (1 : Int32))] [(.int (1 : Int32)), (.int (1 : Int32))])
    refine Win.st ?_ (fun tq kq => XS.icmpYes X0.here hx rfl (pc0 := 10) (pc' := 31) rfl (hb hby d_jdk_43_method_23_10) rfl (flt (Int32.lt_irrefl)).2.1 (by decide) (by decide) kq)
    show Win p e below _ s₁ (mkF mt 31 #[.val (.ref b), .val (.int (124 : Int32)), .val (.int (0 : Int32)), .val (.int (1 : Int32)), .val (.int (124 : Int32)), .val (.int (1 : Int32))] [])
    refine Win.st ?_ (fun tq kq => XS.iconst X0.here hx rfl (hb hby d_jdk_43_method_23_31) kq)
    show Win p e below _ s₁ (mkF mt 32 #[.val (.ref b), .val (.int (124 : Int32)), .val (.int (0 : Int32)), .val (.int (1 : Int32)), .val (.int (124 : Int32)), .val (.int (1 : Int32))] [(.int (-1 : Int32))])
    exact Win.ret X0 hx hlk e0 hrt rfl (Or.inl ⟨rfl, Or.inl rfl, _, rfl⟩) (hb hby d_jdk_43_method_23_32) (by decide) (by decide) ⟨_, rfl, N0, rfl, ⟨fun _ => fun q => hc19 (by rw [q]; decide), fun _ => by decide⟩⟩
theorem d_jdk_43_method_22_29 : decode jdk_43_method_22_code 29 = .ok (.aload_n 0, 1) := by decide +kernel
theorem d_jdk_43_method_22_30 : decode jdk_43_method_22_code 30 = .ok (.iload_n 1, 1) := by decide +kernel
theorem d_jdk_43_method_22_31 : decode jdk_43_method_22_code 31 = .ok (.iload_n 2, 1) := by decide +kernel
theorem d_jdk_43_method_22_32 : decode jdk_43_method_22_code 32 = .ok (.iload_n 3, 1) := by decide +kernel
theorem d_jdk_43_method_22_33 : decode jdk_43_method_22_code 33 = .ok (.invokestatic 95, 3) := by decide +kernel
theorem d_jdk_43_method_22_36 : decode jdk_43_method_22_code 36 = .ok (.ireturn, 1) := by decide +kernel
theorem ef_lio_1 (mt : MethodId) (b : Addr) : entryFrame mt #[(.ref b), (.int (124 : Int32)), (.int (0 : Int32)), (.int (1 : Int32))] 4 = mkF mt 0 #[.val (.ref b), .val (.int (124 : Int32)), .val (.int (0 : Int32)), .val (.int (1 : Int32))] [] := by first | (simp [entryFrame, mkF, argsToLocals, Value.category]; done) | rfl
def Q_lio_1 (Z : State) (b : Addr) (kb : ClassId) (x0 : Int32) (h0 : Heap) (n0 : Nat) (v : Option Value) (h : Heap) (L : List Loc) : Prop := ∃ r : Int32, v = some (.int r) ∧ Fr n0 L ∧ h = h0 ∧ (r < 0 ↔ (¬ (x0 = (124 : Int32))))
set_option maxRecDepth 65536 in
set_option maxHeartbeats 40000000 in
theorem rm_lio_1 (l : Launch) (Z : State) (a0 : Array Value) (hw : ∀ d ∈ tables_1, d.before a0 Z = true) (ws : List Jvm.Cond) (b : Addr) (kb : ClassId) (x0 : Int32) (h0 : Heap) (n0 : Nat) (Z0 : n0 ≤ h0.size) (VB : Arv Z h0 b kb .byte (1 : Int32) [(.int (x0.toInt8.toInt32))] (.int (0 : Int32))) (hp0 : own_B x0) :
    MetFree l (⟨"java/lang/StringLatin1", "indexOf", "([BIII)I"⟩ : MethodName) (head1 (Jvm.Cond.code (⟨"java/lang/StringLatin1", "indexOf", "([BIII)I"⟩ : MethodName) jdk_43_method_22_code 4 (some .int) :: ws) ({ frames := 1, cells := 0, slots := 0, locals := 17 } : Room)) (fun aa UU => aa = #[(.ref b), (.int (124 : Int32)), (.int (0 : Int32)), (.int (1 : Int32))] ∧ Z.Warmed39 UU.vm ∧ UU.heap = h0) (fun _ _ _ _ _ => True) (fun _ UU oo UU' => ∃ vv LL, oo = .returned vv ∧ Q_lio_1 Z b kb x0 h0 n0 vv UU'.heap LL ∧ FrameEnd UU oo UU' LL ({ frames := 1, cells := 0, slots := 0, locals := 17 } : Room).cells ({ frames := 1, cells := 0, slots := 0, locals := 17 } : Room).slots) := by
  refine MetFree.of_bodySF (plainFor_of_name pn_0) hisR ?_
  intro p e s mt args below meth cd s₁ Bd hml0 hP hK
  obtain ⟨hA, hZ, hh⟩ := hP
  have hx := Bd.exec
  have hby := Bd.bytes
  have hml : cd.maxLocals = 4 := hml0
  have hown : s.vm.findClass "java/lang/StringLatin1" = some mt.cls := findClass_of_methodNamed Bd.named
  have hnm := (name_of_methodNamed Bd.named Bd.method).1
  have hlk : meth.locks = false := BodyLoose.notSynchronized Bd
  have hrt := Bd.returns
  have X0 : Stand p l e ({ frames := 1, cells := 0, slots := 0, locals := 17 } : Room) s mt args below meth cd s₁ [] 0 0 := Stand.of_body Bd
  have e0 : s₁.heap = h0 := by rw [← hh, Bd.state]; rfl
  have N0 := Fr.nil n0
  show Win p e below (Ends s (Q_lio_1 Z b kb x0 h0 n0) ({ frames := 1, cells := 0, slots := 0, locals := 17 } : Room).cells ({ frames := 1, cells := 0, slots := 0, locals := 17 } : Room).slots) s₁ (entryFrame mt args 4)
  rw [hA, ef_lio_1]
  refine Win.st ?_ (fun tq kq => XS.iloadN X0.here hx rfl (hb hby d_jdk_43_method_22_0) rfl kq)
  show Win p e below _ s₁ (mkF mt 1 #[.val (.ref b), .val (.int (124 : Int32)), .val (.int (0 : Int32)), .val (.int (1 : Int32))] [(.int (124 : Int32))])
  obtain ⟨v108, _, ⟨T108, L108, k108, n108⟩, -, X108, ⟨Lc108, hQ108, l108, y108, z108⟩, st108⟩ := Jvm.LawKit.callS X0 hx (y := (⟨"java/lang/StringLatin1", "canEncode", "(I)Z"⟩ : MethodName)) hown (mvT hZ (hw _ (List.mem_of_getElem? (i := 64) rfl))) (mvT hZ (hw _ (List.mem_of_getElem? (i := 65) rfl))) (mvT hZ (hw _ (List.mem_of_getElem? (i := 62) rfl))) (mvT hZ (hw _ (List.mem_of_getElem? (i := 66) rfl))) (by decide) (backOf (W := 0) (rm_cei l Z a0 hw [] (124 : Int32) h0 n0 Z0 (by decide) (by decide)) hZ (hw _ (List.mem_of_getElem? (i := 66) rfl)) (hw _ (List.mem_of_getElem? (i := 62) rfl)) (by decide) (by decide)) (g := (mkF mt 1 #[.val (.ref b), .val (.int (124 : Int32)), .val (.int (0 : Int32)), .val (.int (1 : Int32))] [(.int (124 : Int32))])) rfl (by rw [hml]; rfl) (argsL := [(.int (124 : Int32))]) (rest := []) (lenOf pd_3 rfl) rfl (by show 2 * 0 + _ ≤ _; exact Nat.le_of_eq rfl) (hb hby d_jdk_43_method_22_1) (fun _ _ => ⟨rfl, e0, (by decide : 0 + 0 ≤ _), (by decide : 0 + 0 ≤ _)⟩)
  dsimp only [Pt.U, Pt.locs, Pt.cells, Pt.slots] at X108 l108 y108 z108 st108 hQ108
  subst y108 z108
  replace X108 : Stand p l e _ s mt args below meth cd T108 L108 0 0 := X108
  obtain ⟨h108, e108⟩ : ∃ z, T108.heap = z := ⟨_, rfl⟩
  rw [e108] at hQ108
  obtain ⟨rfl, Nq108, eh108⟩ := hQ108
  have N108 : Fr n0 L108 := by rw [l108]; exact Fr.app N0 Nq108
  rw [eh108] at e108
  refine Win.st ?_ st108
  show Win p e below _ T108 (mkF mt 4 #[.val (.ref b), .val (.int (124 : Int32)), .val (.int (0 : Int32)), .val (.int (1 : Int32))] [(.int (1 : Int32))])
  refine Win.st ?_ (fun tq kq => XS.ifYes X108.here hx rfl (pc0 := 4) (pc' := 9) rfl (hb hby d_jdk_43_method_22_4) rfl ((if0 _ _).trans (feq (by decide : ¬ ((1 : Int32) = (0 : Int32)))).2) (by decide) (by decide) kq)
  show Win p e below _ T108 (mkF mt 9 #[.val (.ref b), .val (.int (124 : Int32)), .val (.int (0 : Int32)), .val (.int (1 : Int32))] [])
  refine Win.st ?_ (fun tq kq => XS.iloadN X108.here hx rfl (hb hby d_jdk_43_method_22_9) rfl kq)
  show Win p e below _ T108 (mkF mt 10 #[.val (.ref b), .val (.int (124 : Int32)), .val (.int (0 : Int32)), .val (.int (1 : Int32))] [(.int (0 : Int32))])
  refine Win.st ?_ (fun tq kq => XS.iconst X108.here hx rfl (hb hby d_jdk_43_method_22_10) kq)
  show Win p e below _ T108 (mkF mt 11 #[.val (.ref b), .val (.int (124 : Int32)), .val (.int (0 : Int32)), .val (.int (1 : Int32))] [(.int (0 : Int32)), (.int (0 : Int32))])
  obtain ⟨v109, _, ⟨T109, L109, k109, n109⟩, -, X109, ⟨Lc109, hQ109, l109, y109, z109⟩, st109⟩ := Jvm.LawKit.callS X108 hx (y := (⟨"java/lang/Math", "max", "(II)I"⟩ : MethodName)) hown (mvT hZ (hw _ (List.mem_of_getElem? (i := 67) rfl))) (mvT hZ (hw _ (List.mem_of_getElem? (i := 68) rfl))) (mvT hZ (hw _ (List.mem_of_getElem? (i := 69) rfl))) (mvT hZ (hw _ (List.mem_of_getElem? (i := 70) rfl))) (by decide) (backOf (W := 0) (rm_max l Z a0 hw [] (0 : Int32) (0 : Int32) h0 n0 Z0 ) hZ (hw _ (List.mem_of_getElem? (i := 70) rfl)) (hw _ (List.mem_of_getElem? (i := 69) rfl)) (by decide) (by decide)) (g := (mkF mt 11 #[.val (.ref b), .val (.int (124 : Int32)), .val (.int (0 : Int32)), .val (.int (1 : Int32))] [(.int (0 : Int32)), (.int (0 : Int32))])) rfl (by rw [hml]; rfl) (argsL := [(.int (0 : Int32)), (.int (0 : Int32))]) (rest := []) (lenOf pd_4 rfl) rfl (by show 2 * 0 + _ ≤ _; exact Nat.le_of_eq rfl) (hb hby d_jdk_43_method_22_11) (fun _ _ => ⟨rfl, e108, (by decide : 0 + 0 ≤ _), (by decide : 0 + 0 ≤ _)⟩)
  dsimp only [Pt.U, Pt.locs, Pt.cells, Pt.slots] at X109 l109 y109 z109 st109 hQ109
  subst y109 z109
  replace X109 : Stand p l e _ s mt args below meth cd T109 L109 0 0 := X109
  obtain ⟨h109, e109⟩ : ∃ z, T109.heap = z := ⟨_, rfl⟩
  rw [e109] at hQ109
  obtain ⟨rfl, Nq109, eh109⟩ := hQ109
  have N109 : Fr n0 L109 := by rw [l109]; exact Fr.app N108 Nq109
  rw [eh109] at e109
  rw [show own_max (0 : Int32) (0 : Int32) = (0 : Int32) from by decide] at st109
  refine Win.st ?_ st109
  show Win p e below _ T109 (mkF mt 14 #[.val (.ref b), .val (.int (124 : Int32)), .val (.int (0 : Int32)), .val (.int (1 : Int32))] [(.int (0 : Int32))])
  refine Win.st ?_ (fun tq kq => XS.istoreN X109.here hx rfl (hb hby d_jdk_43_method_22_14) rfl (l' := #[.val (.ref b), .val (.int (124 : Int32)), .val (.int (0 : Int32)), .val (.int (1 : Int32))]) rfl kq)
  show Win p e below _ T109 (mkF mt 15 #[.val (.ref b), .val (.int (124 : Int32)), .val (.int (0 : Int32)), .val (.int (1 : Int32))] [])
  refine Win.st ?_ (fun tq kq => XS.iloadN X109.here hx rfl (hb hby d_jdk_43_method_22_15) rfl kq)
  show Win p e below _ T109 (mkF mt 16 #[.val (.ref b), .val (.int (124 : Int32)), .val (.int (0 : Int32)), .val (.int (1 : Int32))] [(.int (1 : Int32))])
  refine Win.st ?_ (fun tq kq => XS.aloadN X109.here hx rfl (hb hby d_jdk_43_method_22_16) rfl rfl kq)
  show Win p e below _ T109 (mkF mt 17 #[.val (.ref b), .val (.int (124 : Int32)), .val (.int (0 : Int32)), .val (.int (1 : Int32))] [(.ref b), (.int (1 : Int32))])
  refine Win.st ?_ (own_alen (g := (mkF mt 17 #[.val (.ref b), .val (.int (124 : Int32)), .val (.int (0 : Int32)), .val (.int (1 : Int32))] [(.ref b), (.int (1 : Int32))])) X109 hx hZ e109 VB rfl rfl (hb hby d_jdk_43_method_22_17))
  show Win p e below _ T109 (mkF mt 18 #[.val (.ref b), .val (.int (124 : Int32)), .val (.int (0 : Int32)), .val (.int (1 : Int32))] [(.int (1 : Int32)), (.int (1 : Int32))])
  obtain ⟨v110, _, ⟨T110, L110, k110, n110⟩, -, X110, ⟨Lc110, hQ110, l110, y110, z110⟩, st110⟩ := Jvm.LawKit.callS X109 hx (y := (⟨"java/lang/Math", "min", "(II)I"⟩ : MethodName)) hown (mvT hZ (hw _ (List.mem_of_getElem? (i := 71) rfl))) (mvT hZ (hw _ (List.mem_of_getElem? (i := 72) rfl))) (mvT hZ (hw _ (List.mem_of_getElem? (i := 69) rfl))) (mvT hZ (hw _ (List.mem_of_getElem? (i := 73) rfl))) (by decide) (backOf (W := 0) (rm_min l Z a0 hw [] (1 : Int32) (1 : Int32) h0 n0 Z0 ) hZ (hw _ (List.mem_of_getElem? (i := 73) rfl)) (hw _ (List.mem_of_getElem? (i := 69) rfl)) (by decide) (by decide)) (g := (mkF mt 18 #[.val (.ref b), .val (.int (124 : Int32)), .val (.int (0 : Int32)), .val (.int (1 : Int32))] [(.int (1 : Int32)), (.int (1 : Int32))])) rfl (by rw [hml]; rfl) (argsL := [(.int (1 : Int32)), (.int (1 : Int32))]) (rest := []) (lenOf pd_4 rfl) rfl (by show 2 * 0 + _ ≤ _; exact Nat.le_of_eq rfl) (hb hby d_jdk_43_method_22_18) (fun _ _ => ⟨rfl, e109, (by decide : 0 + 0 ≤ _), (by decide : 0 + 0 ≤ _)⟩)
  dsimp only [Pt.U, Pt.locs, Pt.cells, Pt.slots] at X110 l110 y110 z110 st110 hQ110
  subst y110 z110
  replace X110 : Stand p l e _ s mt args below meth cd T110 L110 0 0 := X110
  obtain ⟨h110, e110⟩ : ∃ z, T110.heap = z := ⟨_, rfl⟩
  rw [e110] at hQ110
  obtain ⟨rfl, Nq110, eh110⟩ := hQ110
  have N110 : Fr n0 L110 := by rw [l110]; exact Fr.app N109 Nq110
  rw [eh110] at e110
  rw [show own_min (1 : Int32) (1 : Int32) = (1 : Int32) from by decide] at st110
  refine Win.st ?_ st110
  show Win p e below _ T110 (mkF mt 21 #[.val (.ref b), .val (.int (124 : Int32)), .val (.int (0 : Int32)), .val (.int (1 : Int32))] [(.int (1 : Int32))])
  refine Win.st ?_ (fun tq kq => XS.istoreN X110.here hx rfl (hb hby d_jdk_43_method_22_21) rfl (l' := #[.val (.ref b), .val (.int (124 : Int32)), .val (.int (0 : Int32)), .val (.int (1 : Int32))]) rfl kq)
  show Win p e below _ T110 (mkF mt 22 #[.val (.ref b), .val (.int (124 : Int32)), .val (.int (0 : Int32)), .val (.int (1 : Int32))] [])
  refine Win.st ?_ (fun tq kq => XS.iloadN X110.here hx rfl (hb hby d_jdk_43_method_22_22) rfl kq)
  show Win p e below _ T110 (mkF mt 23 #[.val (.ref b), .val (.int (124 : Int32)), .val (.int (0 : Int32)), .val (.int (1 : Int32))] [(.int (0 : Int32))])
  refine Win.st ?_ (fun tq kq => XS.iloadN X110.here hx rfl (hb hby d_jdk_43_method_22_23) rfl kq)
  show Win p e below _ T110 (mkF mt 24 #[.val (.ref b), .val (.int (124 : Int32)), .val (.int (0 : Int32)), .val (.int (1 : Int32))] [(.int (1 : Int32)), (.int (0 : Int32))])
  refine Win.st ?_ (fun tq kq => XS.icmpYes X110.here hx rfl (pc0 := 24) (pc' := 29) rfl (hb hby d_jdk_43_method_22_24) rfl (tlt (by decide : (0 : Int32) < (1 : Int32))).1 (by decide) (by decide) kq)
  show Win p e below _ T110 (mkF mt 29 #[.val (.ref b), .val (.int (124 : Int32)), .val (.int (0 : Int32)), .val (.int (1 : Int32))] [])
  refine Win.st ?_ (fun tq kq => XS.aloadN X110.here hx rfl (hb hby d_jdk_43_method_22_29) rfl rfl kq)
  show Win p e below _ T110 (mkF mt 30 #[.val (.ref b), .val (.int (124 : Int32)), .val (.int (0 : Int32)), .val (.int (1 : Int32))] [(.ref b)])
  refine Win.st ?_ (fun tq kq => XS.iloadN X110.here hx rfl (hb hby d_jdk_43_method_22_30) rfl kq)
  show Win p e below _ T110 (mkF mt 31 #[.val (.ref b), .val (.int (124 : Int32)), .val (.int (0 : Int32)), .val (.int (1 : Int32))] [(.int (124 : Int32)), (.ref b)])
  refine Win.st ?_ (fun tq kq => XS.iloadN X110.here hx rfl (hb hby d_jdk_43_method_22_31) rfl kq)
  show Win p e below _ T110 (mkF mt 32 #[.val (.ref b), .val (.int (124 : Int32)), .val (.int (0 : Int32)), .val (.int (1 : Int32))] [(.int (0 : Int32)), (.int (124 : Int32)), (.ref b)])
  refine Win.st ?_ (fun tq kq => XS.iloadN X110.here hx rfl (hb hby d_jdk_43_method_22_32) rfl kq)
  show Win p e below _ T110 (mkF mt 33 #[.val (.ref b), .val (.int (124 : Int32)), .val (.int (0 : Int32)), .val (.int (1 : Int32))] [(.int (1 : Int32)), (.int (0 : Int32)), (.int (124 : Int32)), (.ref b)])
  obtain ⟨v111, _, ⟨T111, L111, k111, n111⟩, -, X111, ⟨Lc111, hQ111, l111, y111, z111⟩, st111⟩ := Jvm.LawKit.callS X110 hx (y := (⟨"java/lang/StringLatin1", "indexOfChar", "([BIII)I"⟩ : MethodName)) hown (mvT hZ (hw _ (List.mem_of_getElem? (i := 84) rfl))) (mvT hZ (hw _ (List.mem_of_getElem? (i := 85) rfl))) (mvT hZ (hw _ (List.mem_of_getElem? (i := 62) rfl))) (mvT hZ (hw _ (List.mem_of_getElem? (i := 86) rfl))) (by decide) (backOf (W := 0) (rm_ioc_1 l Z a0 hw [] b kb x0 h0 n0 Z0 VB hp0) hZ (hw _ (List.mem_of_getElem? (i := 86) rfl)) (hw _ (List.mem_of_getElem? (i := 62) rfl)) (by decide) (by decide)) (g := (mkF mt 33 #[.val (.ref b), .val (.int (124 : Int32)), .val (.int (0 : Int32)), .val (.int (1 : Int32))] [(.int (1 : Int32)), (.int (0 : Int32)), (.int (124 : Int32)), (.ref b)])) rfl (by rw [hml]; rfl) (argsL := [(.ref b), (.int (124 : Int32)), (.int (0 : Int32)), (.int (1 : Int32))]) (rest := []) (lenOf pd_7 rfl) rfl (by show 2 * 0 + _ ≤ _; exact Nat.le_of_eq rfl) (hb hby d_jdk_43_method_22_33) (fun _ _ => ⟨rfl, e110, (by decide : 0 + 0 ≤ _), (by decide : 0 + 0 ≤ _)⟩)
  dsimp only [Pt.U, Pt.locs, Pt.cells, Pt.slots] at X111 l111 y111 z111 st111 hQ111
  subst y111 z111
  replace X111 : Stand p l e _ s mt args below meth cd T111 L111 0 0 := X111
  obtain ⟨h111, e111⟩ : ∃ z, T111.heap = z := ⟨_, rfl⟩
  rw [e111] at hQ111
  obtain ⟨rr, rfl, Nq111, eh111, hr⟩ := hQ111
  have N111 : Fr n0 L111 := by rw [l111]; exact Fr.app N110 Nq111
  rw [eh111] at e111
  refine Win.st ?_ st111
  show Win p e below _ T111 (mkF mt 36 #[.val (.ref b), .val (.int (124 : Int32)), .val (.int (0 : Int32)), .val (.int (1 : Int32))] [(.int rr)])
  exact Win.ret X111 hx hlk e111 hrt rfl (Or.inl ⟨rfl, Or.inl rfl, _, rfl⟩) (hb hby d_jdk_43_method_22_36) (by decide) (by decide) ⟨_, rfl, N111, rfl, hr⟩
theorem ef_io2_1 (mt : MethodId) (a : Addr) : entryFrame mt #[(.ref a), (.int (124 : Int32)), (.int (0 : Int32))] 3 = mkF mt 0 #[.val (.ref a), .val (.int (124 : Int32)), .val (.int (0 : Int32))] [] := by first | (simp [entryFrame, mkF, argsToLocals, Value.category]; done) | rfl
def Q_io2_1 (Z : State) (a : Addr) (b : Addr) (kb : ClassId) (cs : Int32) (x0 : Int32) (h0 : Heap) (n0 : Nat) (v : Option Value) (h : Heap) (L : List Loc) : Prop := ∃ r : Int32, v = some (.int r) ∧ Fr n0 L ∧ h = h0 ∧ (r < 0 ↔ (¬ (x0 = (124 : Int32))))
set_option maxRecDepth 65536 in
set_option maxHeartbeats 40000000 in
theorem rm_io2_1 (l : Launch) (Z : State) (a0 : Array Value) (hw : ∀ d ∈ tables_1, d.before a0 Z = true) (ws : List Jvm.Cond) (a : Addr) (b : Addr) (kb : ClassId) (cs : Int32) (x0 : Int32) (h0 : Heap) (n0 : Nat) (Z0 : n0 ≤ h0.size) (E : Exa Z h0 a "java/lang/String") (Fv : Fld Z h0 a "java/lang/String" "value" "[B" (.ref b)) (Fc : Fld Z h0 a "java/lang/String" "coder" "B" (.int (0 : Int32))) (VB : Arv Z h0 b kb .byte (1 : Int32) [(.int (x0.toInt8.toInt32))] (.int (0 : Int32))) (S0 : Sta Z Z.heap "java/lang/String" "COMPACT_STRINGS" "Z" (.int cs)) (hcs : ¬ cs = (0 : Int32)) (O : Old Z n0 h0) (hp0 : own_B x0) :
    MetFree l (⟨"java/lang/String", "indexOf", "(II)I"⟩ : MethodName) (head1 (Jvm.Cond.code (⟨"java/lang/String", "indexOf", "(II)I"⟩ : MethodName) jdk_42_method_80_code 3 (some .int) :: ws) ({ frames := 2, cells := 0, slots := 0, locals := 32 } : Room)) (fun aa UU => aa = #[(.ref a), (.int (124 : Int32)), (.int (0 : Int32))] ∧ Z.Warmed39 UU.vm ∧ UU.heap = h0) (fun _ _ _ _ _ => True) (fun _ UU oo UU' => ∃ vv LL, oo = .returned vv ∧ Q_io2_1 Z a b kb cs x0 h0 n0 vv UU'.heap LL ∧ FrameEnd UU oo UU' LL ({ frames := 2, cells := 0, slots := 0, locals := 32 } : Room).cells ({ frames := 2, cells := 0, slots := 0, locals := 32 } : Room).slots) := by
  refine MetFree.of_bodySF (plainFor_of_name pn_1) hisR ?_
  intro p e s mt args below meth cd s₁ Bd hml0 hP hK
  obtain ⟨hA, hZ, hh⟩ := hP
  have hx := Bd.exec
  have hby := Bd.bytes
  have hml : cd.maxLocals = 3 := hml0
  have hown : s.vm.findClass "java/lang/String" = some mt.cls := findClass_of_methodNamed Bd.named
  have hnm := (name_of_methodNamed Bd.named Bd.method).1
  have hlk : meth.locks = false := BodyLoose.notSynchronized Bd
  have hrt := Bd.returns
  have X0 : Stand p l e ({ frames := 2, cells := 0, slots := 0, locals := 32 } : Room) s mt args below meth cd s₁ [] 0 0 := Stand.of_body Bd
  have e0 : s₁.heap = h0 := by rw [← hh, Bd.state]; rfl
  have N0 := Fr.nil n0
  show Win p e below (Ends s (Q_io2_1 Z a b kb cs x0 h0 n0) ({ frames := 2, cells := 0, slots := 0, locals := 32 } : Room).cells ({ frames := 2, cells := 0, slots := 0, locals := 32 } : Room).slots) s₁ (entryFrame mt args 3)
  rw [hA, ef_io2_1]
  refine Win.st ?_ (fun tq kq => XS.aloadN X0.here hx rfl (hb hby d_jdk_42_method_80_0) rfl rfl kq)
  show Win p e below _ s₁ (mkF mt 1 #[.val (.ref a), .val (.int (124 : Int32)), .val (.int (0 : Int32))] [(.ref a)])
  obtain ⟨cq112, kq112, q112a, q112b, q112c⟩ := isOf hZ e0 E
  obtain ⟨v112, _, ⟨T112, L112, k112, n112⟩, -, X112, ⟨Lc112, hQ112, l112, y112, z112⟩, st112⟩ := X0.virtualBack hx (y := (⟨"java/lang/String", "isLatin1", "()Z"⟩ : MethodName)) (z := (⟨"java/lang/String", "isLatin1", "()Z"⟩ : MethodName)) hown (mvT hZ (hw _ (List.mem_of_getElem? (i := 44) rfl))) (mvT hZ (hw _ (List.mem_of_getElem? (i := 45) rfl))) (notFace_of_selects (args := #[]) (mvT hZ (hw _ (List.mem_of_getElem? (i := 47) rfl)))) (mvT hZ (hw _ (List.mem_of_getElem? (i := 47) rfl))) (mvT hZ (hw _ (List.mem_of_getElem? (i := 46) rfl))) (by decide) (backOf (W := 0) (rm_islatin1 l Z a0 hw [] a cs h0 n0 Z0 Fc S0 hcs O) hZ (hw _ (List.mem_of_getElem? (i := 48) rfl)) (hw _ (List.mem_of_getElem? (i := 10) rfl)) (by decide) (by decide)) q112a q112c (g := (mkF mt 1 #[.val (.ref a), .val (.int (124 : Int32)), .val (.int (0 : Int32))] [(.ref a)])) rfl (by rw [hml]; rfl) (Steps.refl _) (argsL := []) (rest := []) (lenOf pd_5 rfl) rfl (by show 2 * 0 + _ ≤ _; exact Nat.le_of_eq rfl) (hb hby d_jdk_42_method_80_1) (fun _ _ => ⟨rfl, e0, (by decide : 0 + 0 ≤ _), (by decide : 0 + 0 ≤ _)⟩)
  dsimp only [Pt.U, Pt.locs, Pt.cells, Pt.slots] at X112 l112 y112 z112 st112 hQ112
  subst y112 z112
  replace X112 : Stand p l e _ s mt args below meth cd T112 L112 0 0 := X112
  obtain ⟨h112, e112⟩ : ∃ z, T112.heap = z := ⟨_, rfl⟩
  rw [e112] at hQ112
  obtain ⟨rfl, Nq112, eh112⟩ := hQ112
  have N112 : Fr n0 L112 := by rw [l112]; exact Fr.app N0 Nq112
  rw [eh112] at e112
  refine Win.tr ?_ st112
  show Win p e below _ T112 (mkF mt 4 #[.val (.ref a), .val (.int (124 : Int32)), .val (.int (0 : Int32))] [(.int (1 : Int32))])
  refine Win.st ?_ (fun tq kq => XS.ifNo X112.here hx rfl (hb hby d_jdk_42_method_80_4) rfl ((if0 _ _).trans (feq (by decide : ¬ ((1 : Int32) = (0 : Int32)))).1) kq)
  show Win p e below _ T112 (mkF mt 7 #[.val (.ref a), .val (.int (124 : Int32)), .val (.int (0 : Int32))] [])
  refine Win.st ?_ (fun tq kq => XS.aloadN X112.here hx rfl (hb hby d_jdk_42_method_80_7) rfl rfl kq)
  show Win p e below _ T112 (mkF mt 8 #[.val (.ref a), .val (.int (124 : Int32)), .val (.int (0 : Int32))] [(.ref a)])
  obtain ⟨T113, X113, e113, st113⟩ := getF X112 hx hZ hown (host := "") (Or.inl (hw _ (List.mem_of_getElem? (i := 28) rfl))) Via.refl e112 Fv (g := (mkF mt 8 #[.val (.ref a), .val (.int (124 : Int32)), .val (.int (0 : Int32))] [(.ref a)])) rfl rfl (hb hby d_jdk_42_method_80_8)
  refine Win.st ?_ st113
  show Win p e below _ T113 (mkF mt 11 #[.val (.ref a), .val (.int (124 : Int32)), .val (.int (0 : Int32))] [(.ref b)])
  refine Win.st ?_ (fun tq kq => XS.iloadN X113.here hx rfl (hb hby d_jdk_42_method_80_11) rfl kq)
  show Win p e below _ T113 (mkF mt 12 #[.val (.ref a), .val (.int (124 : Int32)), .val (.int (0 : Int32))] [(.int (124 : Int32)), (.ref b)])
  refine Win.st ?_ (fun tq kq => XS.iloadN X113.here hx rfl (hb hby d_jdk_42_method_80_12) rfl kq)
  show Win p e below _ T113 (mkF mt 13 #[.val (.ref a), .val (.int (124 : Int32)), .val (.int (0 : Int32))] [(.int (0 : Int32)), (.int (124 : Int32)), (.ref b)])
  refine Win.st ?_ (fun tq kq => XS.aloadN X113.here hx rfl (hb hby d_jdk_42_method_80_13) rfl rfl kq)
  show Win p e below _ T113 (mkF mt 14 #[.val (.ref a), .val (.int (124 : Int32)), .val (.int (0 : Int32))] [(.ref a), (.int (0 : Int32)), (.int (124 : Int32)), (.ref b)])
  obtain ⟨cq114, kq114, q114a, q114b, q114c⟩ := isOf hZ e113 E
  obtain ⟨v114, _, ⟨T114, L114, k114, n114⟩, -, X114, ⟨Lc114, hQ114, l114, y114, z114⟩, st114⟩ := X113.virtualBack hx (y := (⟨"java/lang/String", "length", "()I"⟩ : MethodName)) (z := (⟨"java/lang/String", "length", "()I"⟩ : MethodName)) hown (mvT hZ (hw _ (List.mem_of_getElem? (i := 50) rfl))) (mvT hZ (hw _ (List.mem_of_getElem? (i := 51) rfl))) (notFace_of_selects (args := #[]) (mvT hZ (hw _ (List.mem_of_getElem? (i := 53) rfl)))) (mvT hZ (hw _ (List.mem_of_getElem? (i := 53) rfl))) (mvT hZ (hw _ (List.mem_of_getElem? (i := 52) rfl))) (by decide) (backOf (W := 3) (rm_slen l Z a0 hw [] a b kb (1 : Int32) [(.int (x0.toInt8.toInt32))] cs h0 n0 Z0 E Fv Fc VB S0 hcs O) hZ (hw _ (List.mem_of_getElem? (i := 54) rfl)) (hw _ (List.mem_of_getElem? (i := 10) rfl)) (by decide) (by decide)) q114a q114c (g := (mkF mt 14 #[.val (.ref a), .val (.int (124 : Int32)), .val (.int (0 : Int32))] [(.ref a), (.int (0 : Int32)), (.int (124 : Int32)), (.ref b)])) rfl (by rw [hml]; rfl) (Steps.refl _) (argsL := []) (rest := [(.int (0 : Int32)), (.int (124 : Int32)), (.ref b)]) (lenOf pd_6 rfl) rfl (by show 2 * 0 + _ ≤ _; exact Nat.le_of_eq rfl) (hb hby d_jdk_42_method_80_14) (fun _ _ => ⟨rfl, e113, (by decide : 0 + 0 ≤ _), (by decide : 0 + 0 ≤ _)⟩)
  dsimp only [Pt.U, Pt.locs, Pt.cells, Pt.slots] at X114 l114 y114 z114 st114 hQ114
  subst y114 z114
  replace X114 : Stand p l e _ s mt args below meth cd T114 L114 0 0 := X114
  obtain ⟨h114, e114⟩ : ∃ z, T114.heap = z := ⟨_, rfl⟩
  rw [e114] at hQ114
  obtain ⟨rfl, Nq114, eh114⟩ := hQ114
  have N114 : Fr n0 L114 := by rw [l114]; exact Fr.app N112 Nq114
  rw [eh114] at e114
  refine Win.tr ?_ st114
  show Win p e below _ T114 (mkF mt 17 #[.val (.ref a), .val (.int (124 : Int32)), .val (.int (0 : Int32))] [(.int (1 : Int32)), (.int (0 : Int32)), (.int (124 : Int32)), (.ref b)])
  obtain ⟨v115, _, ⟨T115, L115, k115, n115⟩, -, X115, ⟨Lc115, hQ115, l115, y115, z115⟩, st115⟩ := Jvm.LawKit.callS X114 hx (y := (⟨"java/lang/StringLatin1", "indexOf", "([BIII)I"⟩ : MethodName)) hown (mvT hZ (hw _ (List.mem_of_getElem? (i := 60) rfl))) (mvT hZ (hw _ (List.mem_of_getElem? (i := 61) rfl))) (mvT hZ (hw _ (List.mem_of_getElem? (i := 62) rfl))) (mvT hZ (hw _ (List.mem_of_getElem? (i := 63) rfl))) (by decide) (backOf (W := 0) (rm_lio_1 l Z a0 hw [] b kb x0 h0 n0 Z0 VB hp0) hZ (hw _ (List.mem_of_getElem? (i := 63) rfl)) (hw _ (List.mem_of_getElem? (i := 62) rfl)) (by decide) (by decide)) (g := (mkF mt 17 #[.val (.ref a), .val (.int (124 : Int32)), .val (.int (0 : Int32))] [(.int (1 : Int32)), (.int (0 : Int32)), (.int (124 : Int32)), (.ref b)])) rfl (by rw [hml]; rfl) (argsL := [(.ref b), (.int (124 : Int32)), (.int (0 : Int32)), (.int (1 : Int32))]) (rest := []) (lenOf pd_7 rfl) rfl (by show 2 * 0 + _ ≤ _; exact Nat.le_of_eq rfl) (hb hby d_jdk_42_method_80_17) (fun _ _ => ⟨rfl, e114, (by decide : 0 + 0 ≤ _), (by decide : 0 + 0 ≤ _)⟩)
  dsimp only [Pt.U, Pt.locs, Pt.cells, Pt.slots] at X115 l115 y115 z115 st115 hQ115
  subst y115 z115
  replace X115 : Stand p l e _ s mt args below meth cd T115 L115 0 0 := X115
  obtain ⟨h115, e115⟩ : ∃ z, T115.heap = z := ⟨_, rfl⟩
  rw [e115] at hQ115
  obtain ⟨rr, rfl, Nq115, eh115, hr⟩ := hQ115
  have N115 : Fr n0 L115 := by rw [l115]; exact Fr.app N114 Nq115
  rw [eh115] at e115
  refine Win.st ?_ st115
  show Win p e below _ T115 (mkF mt 20 #[.val (.ref a), .val (.int (124 : Int32)), .val (.int (0 : Int32))] [(.int rr)])
  refine Win.st ?_ (fun tq kq => XS.goto X115.here hx rfl (pc0 := 20) (pc' := 36) rfl (hb hby d_jdk_42_method_80_20) (by decide) (by decide) kq)
  show Win p e below _ T115 (mkF mt 36 #[.val (.ref a), .val (.int (124 : Int32)), .val (.int (0 : Int32))] [(.int rr)])
  exact Win.ret X115 hx hlk e115 hrt rfl (Or.inl ⟨rfl, Or.inl rfl, _, rfl⟩) (hb hby d_jdk_42_method_80_36) (by decide) (by decide) ⟨_, rfl, N115, rfl, hr⟩
theorem ef_io1_1 (mt : MethodId) (a : Addr) : entryFrame mt #[(.ref a), (.int (124 : Int32))] 2 = mkF mt 0 #[.val (.ref a), .val (.int (124 : Int32))] [] := by first | (simp [entryFrame, mkF, argsToLocals, Value.category]; done) | rfl
def Q_io1_1 (Z : State) (a : Addr) (b : Addr) (kb : ClassId) (cs : Int32) (x0 : Int32) (h0 : Heap) (n0 : Nat) (v : Option Value) (h : Heap) (L : List Loc) : Prop := ∃ r : Int32, v = some (.int r) ∧ Fr n0 L ∧ h = h0 ∧ (r < 0 ↔ (¬ (x0 = (124 : Int32))))
set_option maxRecDepth 65536 in
set_option maxHeartbeats 40000000 in
theorem rm_io1_1 (l : Launch) (Z : State) (a0 : Array Value) (hw : ∀ d ∈ tables_1, d.before a0 Z = true) (ws : List Jvm.Cond) (a : Addr) (b : Addr) (kb : ClassId) (cs : Int32) (x0 : Int32) (h0 : Heap) (n0 : Nat) (Z0 : n0 ≤ h0.size) (E : Exa Z h0 a "java/lang/String") (Fv : Fld Z h0 a "java/lang/String" "value" "[B" (.ref b)) (Fc : Fld Z h0 a "java/lang/String" "coder" "B" (.int (0 : Int32))) (VB : Arv Z h0 b kb .byte (1 : Int32) [(.int (x0.toInt8.toInt32))] (.int (0 : Int32))) (S0 : Sta Z Z.heap "java/lang/String" "COMPACT_STRINGS" "Z" (.int cs)) (hcs : ¬ cs = (0 : Int32)) (O : Old Z n0 h0) (hp0 : own_B x0) :
    MetFree l (⟨"java/lang/String", "indexOf", "(I)I"⟩ : MethodName) (head1 (Jvm.Cond.code (⟨"java/lang/String", "indexOf", "(I)I"⟩ : MethodName) jdk_42_method_79_code 2 (some .int) :: ws) ({ frames := 3, cells := 0, slots := 0, locals := 46 } : Room)) (fun aa UU => aa = #[(.ref a), (.int (124 : Int32))] ∧ Z.Warmed39 UU.vm ∧ UU.heap = h0) (fun _ _ _ _ _ => True) (fun _ UU oo UU' => ∃ vv LL, oo = .returned vv ∧ Q_io1_1 Z a b kb cs x0 h0 n0 vv UU'.heap LL ∧ FrameEnd UU oo UU' LL ({ frames := 3, cells := 0, slots := 0, locals := 46 } : Room).cells ({ frames := 3, cells := 0, slots := 0, locals := 46 } : Room).slots) := by
  refine MetFree.of_bodySF (plainFor_of_name pn_1) hisR ?_
  intro p e s mt args below meth cd s₁ Bd hml0 hP hK
  obtain ⟨hA, hZ, hh⟩ := hP
  have hx := Bd.exec
  have hby := Bd.bytes
  have hml : cd.maxLocals = 2 := hml0
  have hown : s.vm.findClass "java/lang/String" = some mt.cls := findClass_of_methodNamed Bd.named
  have hnm := (name_of_methodNamed Bd.named Bd.method).1
  have hlk : meth.locks = false := BodyLoose.notSynchronized Bd
  have hrt := Bd.returns
  have X0 : Stand p l e ({ frames := 3, cells := 0, slots := 0, locals := 46 } : Room) s mt args below meth cd s₁ [] 0 0 := Stand.of_body Bd
  have e0 : s₁.heap = h0 := by rw [← hh, Bd.state]; rfl
  have N0 := Fr.nil n0
  show Win p e below (Ends s (Q_io1_1 Z a b kb cs x0 h0 n0) ({ frames := 3, cells := 0, slots := 0, locals := 46 } : Room).cells ({ frames := 3, cells := 0, slots := 0, locals := 46 } : Room).slots) s₁ (entryFrame mt args 2)
  rw [hA, ef_io1_1]
  refine Win.st ?_ (fun tq kq => XS.aloadN X0.here hx rfl (hb hby d_jdk_42_method_79_0) rfl rfl kq)
  show Win p e below _ s₁ (mkF mt 1 #[.val (.ref a), .val (.int (124 : Int32))] [(.ref a)])
  refine Win.st ?_ (fun tq kq => XS.iloadN X0.here hx rfl (hb hby d_jdk_42_method_79_1) rfl kq)
  show Win p e below _ s₁ (mkF mt 2 #[.val (.ref a), .val (.int (124 : Int32))] [(.int (124 : Int32)), (.ref a)])
  refine Win.st ?_ (fun tq kq => XS.iconst X0.here hx rfl (hb hby d_jdk_42_method_79_2) kq)
  show Win p e below _ s₁ (mkF mt 3 #[.val (.ref a), .val (.int (124 : Int32))] [(.int (0 : Int32)), (.int (124 : Int32)), (.ref a)])
  obtain ⟨cq116, kq116, q116a, q116b, q116c⟩ := isOf hZ e0 E
  obtain ⟨v116, _, ⟨T116, L116, k116, n116⟩, -, X116, ⟨Lc116, hQ116, l116, y116, z116⟩, st116⟩ := X0.virtualBack hx (y := (⟨"java/lang/String", "indexOf", "(II)I"⟩ : MethodName)) (z := (⟨"java/lang/String", "indexOf", "(II)I"⟩ : MethodName)) hown (mvT hZ (hw _ (List.mem_of_getElem? (i := 39) rfl))) (mvT hZ (hw _ (List.mem_of_getElem? (i := 40) rfl))) (notFace_of_selects (args := #[]) (mvT hZ (hw _ (List.mem_of_getElem? (i := 42) rfl)))) (mvT hZ (hw _ (List.mem_of_getElem? (i := 42) rfl))) (mvT hZ (hw _ (List.mem_of_getElem? (i := 41) rfl))) (by decide) (backOf (W := 0) (rm_io2_1 l Z a0 hw [] a b kb cs x0 h0 n0 Z0 E Fv Fc VB S0 hcs O hp0) hZ (hw _ (List.mem_of_getElem? (i := 43) rfl)) (hw _ (List.mem_of_getElem? (i := 10) rfl)) (by decide) (by decide)) q116a q116c (g := (mkF mt 3 #[.val (.ref a), .val (.int (124 : Int32))] [(.int (0 : Int32)), (.int (124 : Int32)), (.ref a)])) rfl (by rw [hml]; rfl) (Steps.refl _) (argsL := [(.int (124 : Int32)), (.int (0 : Int32))]) (rest := []) (lenOf pd_4 rfl) rfl (by show 2 * 0 + _ ≤ _; exact Nat.le_of_eq rfl) (hb hby d_jdk_42_method_79_3) (fun _ _ => ⟨rfl, e0, (by decide : 0 + 0 ≤ _), (by decide : 0 + 0 ≤ _)⟩)
  dsimp only [Pt.U, Pt.locs, Pt.cells, Pt.slots] at X116 l116 y116 z116 st116 hQ116
  subst y116 z116
  replace X116 : Stand p l e _ s mt args below meth cd T116 L116 0 0 := X116
  obtain ⟨h116, e116⟩ : ∃ z, T116.heap = z := ⟨_, rfl⟩
  rw [e116] at hQ116
  obtain ⟨rr, rfl, Nq116, eh116, hr⟩ := hQ116
  have N116 : Fr n0 L116 := by rw [l116]; exact Fr.app N0 Nq116
  rw [eh116] at e116
  refine Win.tr ?_ st116
  show Win p e below _ T116 (mkF mt 6 #[.val (.ref a), .val (.int (124 : Int32))] [(.int rr)])
  exact Win.ret X116 hx hlk e116 hrt rfl (Or.inl ⟨rfl, Or.inl rfl, _, rfl⟩) (hb hby d_jdk_42_method_79_6) (by decide) (by decide) ⟨_, rfl, N116, rfl, hr⟩
theorem ef_hsy_1 (mt : MethodId) (a : Addr) : entryFrame mt #[(.ref a)] 1 = mkF mt 0 #[.val (.ref a)] [] := by first | (simp [entryFrame, mkF, argsToLocals, Value.category]; done) | rfl
def Q_hsy_1 (Z : State) (a : Addr) (b : Addr) (kb : ClassId) (cs : Int32) (x0 : Int32) (h0 : Heap) (n0 : Nat) (v : Option Value) (h : Heap) (L : List Loc) : Prop := ∃ r : Int32, v = some (.int r) ∧ Fr n0 L ∧ h = h0 ∧ ((¬ (x0 = (124 : Int32))) → r = 1) ∧ (¬ (¬ (x0 = (124 : Int32))) → r = 0)
set_option maxRecDepth 65536 in
set_option maxHeartbeats 40000000 in
theorem rm_hsy_1 (l : Launch) (Z : State) (a0 : Array Value) (hw : ∀ d ∈ tables_1, d.before a0 Z = true) (ws : List Jvm.Cond) (a : Addr) (b : Addr) (kb : ClassId) (cs : Int32) (x0 : Int32) (h0 : Heap) (n0 : Nat) (Z0 : n0 ≤ h0.size) (E : Exa Z h0 a "java/lang/String") (Fv : Fld Z h0 a "java/lang/String" "value" "[B" (.ref b)) (Fc : Fld Z h0 a "java/lang/String" "coder" "B" (.int (0 : Int32))) (VB : Arv Z h0 b kb .byte (1 : Int32) [(.int (x0.toInt8.toInt32))] (.int (0 : Int32))) (S0 : Sta Z Z.heap "java/lang/String" "COMPACT_STRINGS" "Z" (.int cs)) (hcs : ¬ cs = (0 : Int32)) (O : Old Z n0 h0) (hp0 : own_B x0) :
    MetFree l (⟨"com/example/foldkey/foldkey/store/Token", "holdsSystem", "(Ljava/lang/String;)Z"⟩ : MethodName) (head1 (Jvm.Cond.code (⟨"com/example/foldkey/foldkey/store/Token", "holdsSystem", "(Ljava/lang/String;)Z"⟩ : MethodName) prog_39_method_3_code 1 (some .boolean) :: ws) ({ frames := 4, cells := 0, slots := 0, locals := 59 } : Room)) (fun aa UU => aa = #[(.ref a)] ∧ Z.Warmed39 UU.vm ∧ UU.heap = h0) (fun _ _ _ _ _ => True) (fun _ UU oo UU' => ∃ vv LL, oo = .returned vv ∧ Q_hsy_1 Z a b kb cs x0 h0 n0 vv UU'.heap LL ∧ FrameEnd UU oo UU' LL ({ frames := 4, cells := 0, slots := 0, locals := 59 } : Room).cells ({ frames := 4, cells := 0, slots := 0, locals := 59 } : Room).slots) := by
  refine MetFree.of_bodySF (plainFor_of_name pn_3) hisR ?_
  intro p e s mt args below meth cd s₁ Bd hml0 hP hK
  obtain ⟨hA, hZ, hh⟩ := hP
  have hx := Bd.exec
  have hby := Bd.bytes
  have hml : cd.maxLocals = 1 := hml0
  have hown : s.vm.findClass "com/example/foldkey/foldkey/store/Token" = some mt.cls := findClass_of_methodNamed Bd.named
  have hnm := (name_of_methodNamed Bd.named Bd.method).1
  have hlk : meth.locks = false := BodyLoose.notSynchronized Bd
  have hrt := Bd.returns
  have X0 : Stand p l e ({ frames := 4, cells := 0, slots := 0, locals := 59 } : Room) s mt args below meth cd s₁ [] 0 0 := Stand.of_body Bd
  have e0 : s₁.heap = h0 := by rw [← hh, Bd.state]; rfl
  have N0 := Fr.nil n0
  show Win p e below (Ends s (Q_hsy_1 Z a b kb cs x0 h0 n0) ({ frames := 4, cells := 0, slots := 0, locals := 59 } : Room).cells ({ frames := 4, cells := 0, slots := 0, locals := 59 } : Room).slots) s₁ (entryFrame mt args 1)
  rw [hA, ef_hsy_1]
  refine Win.st ?_ (fun tq kq => XS.aloadN X0.here hx rfl (hb hby d_prog_39_method_3_0) rfl rfl kq)
  show Win p e below _ s₁ (mkF mt 1 #[.val (.ref a)] [(.ref a)])
  refine Win.st ?_ (fun tq kq => XS.bipush X0.here hx rfl (hb hby d_prog_39_method_3_1) kq)
  show Win p e below _ s₁ (mkF mt 3 #[.val (.ref a)] [(.int (124 : Int32)), (.ref a)])
  obtain ⟨cq117, kq117, q117a, q117b, q117c⟩ := isOf hZ e0 E
  obtain ⟨v117, _, ⟨T117, L117, k117, n117⟩, -, X117, ⟨Lc117, hQ117, l117, y117, z117⟩, st117⟩ := X0.virtualBack hx (y := (⟨"java/lang/String", "indexOf", "(I)I"⟩ : MethodName)) (z := (⟨"java/lang/String", "indexOf", "(I)I"⟩ : MethodName)) hown (mvT hZ (hw _ (List.mem_of_getElem? (i := 34) rfl))) (mvT hZ (hw _ (List.mem_of_getElem? (i := 35) rfl))) (notFace_of_selects (args := #[]) (mvT hZ (hw _ (List.mem_of_getElem? (i := 37) rfl)))) (mvT hZ (hw _ (List.mem_of_getElem? (i := 37) rfl))) (mvT hZ (hw _ (List.mem_of_getElem? (i := 36) rfl))) (by decide) (backOf (W := 0) (rm_io1_1 l Z a0 hw [] a b kb cs x0 h0 n0 Z0 E Fv Fc VB S0 hcs O hp0) hZ (hw _ (List.mem_of_getElem? (i := 38) rfl)) (hw _ (List.mem_of_getElem? (i := 10) rfl)) (by decide) (by decide)) q117a q117c (g := (mkF mt 3 #[.val (.ref a)] [(.int (124 : Int32)), (.ref a)])) rfl (by rw [hml]; rfl) (Steps.refl _) (argsL := [(.int (124 : Int32))]) (rest := []) (lenOf pd_8 rfl) rfl (by show 2 * 0 + _ ≤ _; exact Nat.le_of_eq rfl) (hb hby d_prog_39_method_3_3) (fun _ _ => ⟨rfl, e0, (by decide : 0 + 0 ≤ _), (by decide : 0 + 0 ≤ _)⟩)
  dsimp only [Pt.U, Pt.locs, Pt.cells, Pt.slots] at X117 l117 y117 z117 st117 hQ117
  subst y117 z117
  replace X117 : Stand p l e _ s mt args below meth cd T117 L117 0 0 := X117
  obtain ⟨h117, e117⟩ : ∃ z, T117.heap = z := ⟨_, rfl⟩
  rw [e117] at hQ117
  obtain ⟨rr, rfl, Nq117, eh117, hr⟩ := hQ117
  have N117 : Fr n0 L117 := by rw [l117]; exact Fr.app N0 Nq117
  rw [eh117] at e117
  refine Win.tr ?_ st117
  show Win p e below _ T117 (mkF mt 6 #[.val (.ref a)] [(.int rr)])
  by_cases hc6 : rr < (0 : Int32)
  · refine Win.st ?_ (fun tq kq => XS.ifNo X117.here hx rfl (hb hby d_prog_39_method_3_6) rfl ((if0 _ _).trans (tlt hc6).2.1) kq)
    show Win p e below _ T117 (mkF mt 9 #[.val (.ref a)] [])
    refine Win.st ?_ (fun tq kq => XS.iconst X117.here hx rfl (hb hby d_prog_39_method_3_9) kq)
    show Win p e below _ T117 (mkF mt 10 #[.val (.ref a)] [(.int (1 : Int32))])
    refine Win.st ?_ (fun tq kq => XS.goto X117.here hx rfl (pc0 := 10) (pc' := 14) rfl (hb hby d_prog_39_method_3_10) (by decide) (by decide) kq)
    show Win p e below _ T117 (mkF mt 14 #[.val (.ref a)] [(.int (1 : Int32))])
    exact Win.retN X117 hx hlk e117 (t := .boolean) (z' := (1 : Int32)) hrt (by simp) (hb hby d_prog_39_method_3_14) (by decide) (by decide) rfl ⟨_, rfl, N117, rfl, fun _ => rfl, fun q => absurd (hr.mp hc6) q⟩
  · refine Win.st ?_ (fun tq kq => XS.ifYes X117.here hx rfl (pc0 := 6) (pc' := 13) rfl (hb hby d_prog_39_method_3_6) rfl ((if0 _ _).trans (flt hc6).2.1) (by decide) (by decide) kq)
    show Win p e below _ T117 (mkF mt 13 #[.val (.ref a)] [])
    refine Win.st ?_ (fun tq kq => XS.iconst X117.here hx rfl (hb hby d_prog_39_method_3_13) kq)
    show Win p e below _ T117 (mkF mt 14 #[.val (.ref a)] [(.int (0 : Int32))])
    exact Win.retN X117 hx hlk e117 (t := .boolean) (z' := (0 : Int32)) hrt (by simp) (hb hby d_prog_39_method_3_14) (by decide) (by decide) rfl ⟨_, rfl, N117, rfl, fun q => absurd (hr.mpr q) hc6, fun _ => rfl⟩
theorem ef_cmp5_2 (mt : MethodId) (a : Addr) (b : Addr) : entryFrame mt #[(.ref a), (.int (0 : Int32)), (.ref b), (.int (0 : Int32)), (.int (2 : Int32))] 7 = mkF mt 0 #[.val (.ref a), .val (.int (0 : Int32)), .val (.ref b), .val (.int (0 : Int32)), .val (.int (2 : Int32)), .unset, .unset] [] := by first | (simp [entryFrame, mkF, argsToLocals, Value.category]; done) | rfl
def Q_cmp5_2 (Z : State) (a : Addr) (b : Addr) (ka : ClassId) (kb : ClassId) (x0 : Int32) (x1 : Int32) (h0 : Heap) (n0 : Nat) (v : Option Value) (h : Heap) (L : List Loc) : Prop := v = some (.int (2 : Int32)) ∧ Fr n0 L ∧ Keep h0 h [b] ∧ Arv Z h b kb .byte (2 : Int32) [(.int (x0.toInt8.toInt32)), (.int (x1.toInt8.toInt32))] (.int (0 : Int32))
set_option maxRecDepth 65536 in
set_option maxHeartbeats 40000000 in
theorem rm_cmp5_2 (l : Launch) (Z : State) (a0 : Array Value) (hw : ∀ d ∈ tables_1, d.before a0 Z = true) (ws : List Jvm.Cond) (a : Addr) (b : Addr) (ka : ClassId) (kb : ClassId) (x0 : Int32) (x1 : Int32) (h0 : Heap) (n0 : Nat) (Z0 : n0 ≤ h0.size) (VA : Arv Z h0 a ka .char (2 : Int32) [(.int x0), (.int x1)] (.int (0 : Int32))) (VB : Arv Z h0 b kb .byte (2 : Int32) [(.int (0 : Int32)), (.int (0 : Int32))] (.int (0 : Int32))) (gb : n0 ≤ b) (nab : a ≠ b) (hp0 : own_B x0) (hp1 : own_B x1) :
    MetFree l (⟨"java/lang/StringUTF16", "compress", "([CI[BII)I"⟩ : MethodName) (head1 (Jvm.Cond.code (⟨"java/lang/StringUTF16", "compress", "([CI[BII)I"⟩ : MethodName) jdk_52_method_21_code 7 (some .int) :: ws) ({ frames := 0, cells := 0, slots := 0, locals := 0 } : Room)) (fun aa UU => aa = #[(.ref a), (.int (0 : Int32)), (.ref b), (.int (0 : Int32)), (.int (2 : Int32))] ∧ Z.Warmed39 UU.vm ∧ UU.heap = h0) (fun _ _ _ _ _ => True) (fun _ UU oo UU' => ∃ vv LL, oo = .returned vv ∧ Q_cmp5_2 Z a b ka kb x0 x1 h0 n0 vv UU'.heap LL ∧ FrameEnd UU oo UU' LL ({ frames := 0, cells := 0, slots := 0, locals := 0 } : Room).cells ({ frames := 0, cells := 0, slots := 0, locals := 0 } : Room).slots) := by
  refine MetFree.of_bodySF (plainFor_of_name pn_4) hisR ?_
  intro p e s mt args below meth cd s₁ Bd hml0 hP hK
  obtain ⟨hA, hZ, hh⟩ := hP
  have hx := Bd.exec
  have hby := Bd.bytes
  have hml : cd.maxLocals = 7 := hml0
  have hown : s.vm.findClass "java/lang/StringUTF16" = some mt.cls := findClass_of_methodNamed Bd.named
  have hnm := (name_of_methodNamed Bd.named Bd.method).1
  have hlk : meth.locks = false := BodyLoose.notSynchronized Bd
  have hrt := Bd.returns
  have X0 : Stand p l e ({ frames := 0, cells := 0, slots := 0, locals := 0 } : Room) s mt args below meth cd s₁ [] 0 0 := Stand.of_body Bd
  have e0 : s₁.heap = h0 := by rw [← hh, Bd.state]; rfl
  have N0 := Fr.nil n0
  show Win p e below (Ends s (Q_cmp5_2 Z a b ka kb x0 x1 h0 n0) ({ frames := 0, cells := 0, slots := 0, locals := 0 } : Room).cells ({ frames := 0, cells := 0, slots := 0, locals := 0 } : Room).slots) s₁ (entryFrame mt args 7)
  rw [hA, ef_cmp5_2]
  refine Win.st ?_ (fun tq kq => XS.iconst X0.here hx rfl (hb hby d_jdk_52_method_21_0) kq)
  show Win p e below _ s₁ (mkF mt 1 #[.val (.ref a), .val (.int (0 : Int32)), .val (.ref b), .val (.int (0 : Int32)), .val (.int (2 : Int32)), .unset, .unset] [(.int (0 : Int32))])
  refine Win.st ?_ (fun tq kq => XS.istore X0.here hx rfl (hb hby d_jdk_52_method_21_1) rfl (l' := #[.val (.ref a), .val (.int (0 : Int32)), .val (.ref b), .val (.int (0 : Int32)), .val (.int (2 : Int32)), .val (.int (0 : Int32)), .unset]) rfl kq)
  show Win p e below _ s₁ (mkF mt 3 #[.val (.ref a), .val (.int (0 : Int32)), .val (.ref b), .val (.int (0 : Int32)), .val (.int (2 : Int32)), .val (.int (0 : Int32)), .unset] [])
  refine Win.st ?_ (fun tq kq => XS.iload X0.here hx rfl (hb hby d_jdk_52_method_21_3) rfl kq)
  show Win p e below _ s₁ (mkF mt 5 #[.val (.ref a), .val (.int (0 : Int32)), .val (.ref b), .val (.int (0 : Int32)), .val (.int (2 : Int32)), .val (.int (0 : Int32)), .unset] [(.int (0 : Int32))])
  refine Win.st ?_ (fun tq kq => XS.iload X0.here hx rfl (hb hby d_jdk_52_method_21_5) rfl kq)
  show Win p e below _ s₁ (mkF mt 7 #[.val (.ref a), .val (.int (0 : Int32)), .val (.ref b), .val (.int (0 : Int32)), .val (.int (2 : Int32)), .val (.int (0 : Int32)), .unset] [(.int (2 : Int32)), (.int (0 : Int32))])
  refine Win.st ?_ (fun tq kq => XS.icmpNo X0.here hx rfl (hb hby d_jdk_52_method_21_7) rfl (tlt (by decide : (0 : Int32) < (2 : Int32))).2.1 kq)
  show Win p e below _ s₁ (mkF mt 10 #[.val (.ref a), .val (.int (0 : Int32)), .val (.ref b), .val (.int (0 : Int32)), .val (.int (2 : Int32)), .val (.int (0 : Int32)), .unset] [])
  refine Win.st ?_ (fun tq kq => XS.aloadN X0.here hx rfl (hb hby d_jdk_52_method_21_10) rfl rfl kq)
  show Win p e below _ s₁ (mkF mt 11 #[.val (.ref a), .val (.int (0 : Int32)), .val (.ref b), .val (.int (0 : Int32)), .val (.int (2 : Int32)), .val (.int (0 : Int32)), .unset] [(.ref a)])
  refine Win.st ?_ (fun tq kq => XS.iloadN X0.here hx rfl (hb hby d_jdk_52_method_21_11) rfl kq)
  show Win p e below _ s₁ (mkF mt 12 #[.val (.ref a), .val (.int (0 : Int32)), .val (.ref b), .val (.int (0 : Int32)), .val (.int (2 : Int32)), .val (.int (0 : Int32)), .unset] [(.int (0 : Int32)), (.ref a)])
  refine Win.st ?_ (own_cald (g := (mkF mt 12 #[.val (.ref a), .val (.int (0 : Int32)), .val (.ref b), .val (.int (0 : Int32)), .val (.int (2 : Int32)), .val (.int (0 : Int32)), .unset] [(.int (0 : Int32)), (.ref a)])) X0 hx hZ e0 VA (j := (0 : Int32)) (v := (.int x0)) (by decide) (by decide) rfl rfl rfl (hb hby d_jdk_52_method_21_12))
  show Win p e below _ s₁ (mkF mt 13 #[.val (.ref a), .val (.int (0 : Int32)), .val (.ref b), .val (.int (0 : Int32)), .val (.int (2 : Int32)), .val (.int (0 : Int32)), .unset] [(.int x0)])
  refine Win.st ?_ (fun tq kq => XS.istore X0.here hx rfl (hb hby d_jdk_52_method_21_13) rfl (l' := #[.val (.ref a), .val (.int (0 : Int32)), .val (.ref b), .val (.int (0 : Int32)), .val (.int (2 : Int32)), .val (.int (0 : Int32)), .val (.int x0)]) rfl kq)
  show Win p e below _ s₁ (mkF mt 15 #[.val (.ref a), .val (.int (0 : Int32)), .val (.ref b), .val (.int (0 : Int32)), .val (.int (2 : Int32)), .val (.int (0 : Int32)), .val (.int x0)] [])
  refine Win.st ?_ (fun tq kq => XS.iload X0.here hx rfl (hb hby d_jdk_52_method_21_15) rfl kq)
  show Win p e below _ s₁ (mkF mt 17 #[.val (.ref a), .val (.int (0 : Int32)), .val (.ref b), .val (.int (0 : Int32)), .val (.int (2 : Int32)), .val (.int (0 : Int32)), .val (.int x0)] [(.int x0)])
  refine Win.st ?_ (fun tq kq => XS.sipush X0.here hx rfl (hb hby d_jdk_52_method_21_17) kq)
  show Win p e below _ s₁ (mkF mt 20 #[.val (.ref a), .val (.int (0 : Int32)), .val (.ref b), .val (.int (0 : Int32)), .val (.int (2 : Int32)), .val (.int (0 : Int32)), .val (.int x0)] [(.int (255 : Int32)), (.int x0)])
  refine Win.st ?_ (fun tq kq => XS.icmpYes X0.here hx rfl (pc0 := 20) (pc' := 26) rfl (hb hby d_jdk_52_method_21_20) rfl (flt (own_nlt (by rw [own_i255]; exact hp0.2))).2.2.2 (by decide) (by decide) kq)
  show Win p e below _ s₁ (mkF mt 26 #[.val (.ref a), .val (.int (0 : Int32)), .val (.ref b), .val (.int (0 : Int32)), .val (.int (2 : Int32)), .val (.int (0 : Int32)), .val (.int x0)] [])
  refine Win.st ?_ (fun tq kq => XS.aloadN X0.here hx rfl (hb hby d_jdk_52_method_21_26) rfl rfl kq)
  show Win p e below _ s₁ (mkF mt 27 #[.val (.ref a), .val (.int (0 : Int32)), .val (.ref b), .val (.int (0 : Int32)), .val (.int (2 : Int32)), .val (.int (0 : Int32)), .val (.int x0)] [(.ref b)])
  refine Win.st ?_ (fun tq kq => XS.iloadN X0.here hx rfl (hb hby d_jdk_52_method_21_27) rfl kq)
  show Win p e below _ s₁ (mkF mt 28 #[.val (.ref a), .val (.int (0 : Int32)), .val (.ref b), .val (.int (0 : Int32)), .val (.int (2 : Int32)), .val (.int (0 : Int32)), .val (.int x0)] [(.int (0 : Int32)), (.ref b)])
  refine Win.st ?_ (fun tq kq => XS.iload X0.here hx rfl (hb hby d_jdk_52_method_21_28) rfl kq)
  show Win p e below _ s₁ (mkF mt 30 #[.val (.ref a), .val (.int (0 : Int32)), .val (.ref b), .val (.int (0 : Int32)), .val (.int (2 : Int32)), .val (.int (0 : Int32)), .val (.int x0)] [(.int x0), (.int (0 : Int32)), (.ref b)])
  refine Win.st ?_ (fun tq kq => XS.i2b X0.here hx rfl (hb hby d_jdk_52_method_21_30) rfl kq)
  show Win p e below _ s₁ (mkF mt 31 #[.val (.ref a), .val (.int (0 : Int32)), .val (.ref b), .val (.int (0 : Int32)), .val (.int (2 : Int32)), .val (.int (0 : Int32)), .val (.int x0)] [(.int (x0.toInt8.toInt32)), (.int (0 : Int32)), (.ref b)])
  obtain ⟨T118, h118, L118, X118, N118, e118, kp118, V118, st118⟩ := own_bast (g := (mkF mt 31 #[.val (.ref a), .val (.int (0 : Int32)), .val (.ref b), .val (.int (0 : Int32)), .val (.int (2 : Int32)), .val (.int (0 : Int32)), .val (.int x0)] [(.int (x0.toInt8.toInt32)), (.int (0 : Int32)), (.ref b)])) X0 hx hZ e0 N0 gb VB (j := (0 : Int32)) (by decide) (by decide) (i := 0) rfl (by simp) rfl rfl (hb hby d_jdk_52_method_21_31)
  rw [own_b8] at V118
  replace V118 : Arv Z h118 b kb .byte (2 : Int32) ([(.int (x0.toInt8.toInt32)), (.int (0 : Int32))]) (.int (0 : Int32)) := V118
  have f119_35 := VA.keep kp118 (ninS nab nin0)
  have Z120 : n0 ≤ h118.size := Nat.le_trans Z0 kp118.1
  have K121 : Keep h0 h118 [b] := Keep.trans (Keep.refl h0 [b]) kp118 (allS (Or.inl (List.mem_of_getElem? (i := 0) rfl)) all0)
  refine Win.st ?_ st118
  show Win p e below _ T118 (mkF mt 32 #[.val (.ref a), .val (.int (0 : Int32)), .val (.ref b), .val (.int (0 : Int32)), .val (.int (2 : Int32)), .val (.int (0 : Int32)), .val (.int x0)] [])
  refine Win.st ?_ (fun tq kq => XS.iinc X118.here hx rfl (hb hby d_jdk_52_method_21_32) rfl (l' := #[.val (.ref a), .val (.int (1 : Int32)), .val (.ref b), .val (.int (0 : Int32)), .val (.int (2 : Int32)), .val (.int (0 : Int32)), .val (.int x0)]) rfl kq)
  show Win p e below _ T118 (mkF mt 35 #[.val (.ref a), .val (.int (1 : Int32)), .val (.ref b), .val (.int (0 : Int32)), .val (.int (2 : Int32)), .val (.int (0 : Int32)), .val (.int x0)] [])
  refine Win.st ?_ (fun tq kq => XS.iinc X118.here hx rfl (hb hby d_jdk_52_method_21_35) rfl (l' := #[.val (.ref a), .val (.int (1 : Int32)), .val (.ref b), .val (.int (1 : Int32)), .val (.int (2 : Int32)), .val (.int (0 : Int32)), .val (.int x0)]) rfl kq)
  show Win p e below _ T118 (mkF mt 38 #[.val (.ref a), .val (.int (1 : Int32)), .val (.ref b), .val (.int (1 : Int32)), .val (.int (2 : Int32)), .val (.int (0 : Int32)), .val (.int x0)] [])
  refine Win.st ?_ (fun tq kq => XS.iinc X118.here hx rfl (hb hby d_jdk_52_method_21_38) rfl (l' := #[.val (.ref a), .val (.int (1 : Int32)), .val (.ref b), .val (.int (1 : Int32)), .val (.int (2 : Int32)), .val (.int (1 : Int32)), .val (.int x0)]) rfl kq)
  show Win p e below _ T118 (mkF mt 41 #[.val (.ref a), .val (.int (1 : Int32)), .val (.ref b), .val (.int (1 : Int32)), .val (.int (2 : Int32)), .val (.int (1 : Int32)), .val (.int x0)] [])
  refine Win.st ?_ (fun tq kq => XS.goto X118.here hx rfl (pc0 := 41) (pc' := 3) rfl (hb hby d_jdk_52_method_21_41) (by decide) (by decide) kq)
  show Win p e below _ T118 (mkF mt 3 #[.val (.ref a), .val (.int (1 : Int32)), .val (.ref b), .val (.int (1 : Int32)), .val (.int (2 : Int32)), .val (.int (1 : Int32)), .val (.int x0)] [])
  refine Win.st ?_ (fun tq kq => XS.iload X118.here hx rfl (hb hby d_jdk_52_method_21_3) rfl kq)
  show Win p e below _ T118 (mkF mt 5 #[.val (.ref a), .val (.int (1 : Int32)), .val (.ref b), .val (.int (1 : Int32)), .val (.int (2 : Int32)), .val (.int (1 : Int32)), .val (.int x0)] [(.int (1 : Int32))])
  refine Win.st ?_ (fun tq kq => XS.iload X118.here hx rfl (hb hby d_jdk_52_method_21_5) rfl kq)
  show Win p e below _ T118 (mkF mt 7 #[.val (.ref a), .val (.int (1 : Int32)), .val (.ref b), .val (.int (1 : Int32)), .val (.int (2 : Int32)), .val (.int (1 : Int32)), .val (.int x0)] [(.int (2 : Int32)), (.int (1 : Int32))])
  refine Win.st ?_ (fun tq kq => XS.icmpNo X118.here hx rfl (hb hby d_jdk_52_method_21_7) rfl (tlt (by decide : (1 : Int32) < (2 : Int32))).2.1 kq)
  show Win p e below _ T118 (mkF mt 10 #[.val (.ref a), .val (.int (1 : Int32)), .val (.ref b), .val (.int (1 : Int32)), .val (.int (2 : Int32)), .val (.int (1 : Int32)), .val (.int x0)] [])
  refine Win.st ?_ (fun tq kq => XS.aloadN X118.here hx rfl (hb hby d_jdk_52_method_21_10) rfl rfl kq)
  show Win p e below _ T118 (mkF mt 11 #[.val (.ref a), .val (.int (1 : Int32)), .val (.ref b), .val (.int (1 : Int32)), .val (.int (2 : Int32)), .val (.int (1 : Int32)), .val (.int x0)] [(.ref a)])
  refine Win.st ?_ (fun tq kq => XS.iloadN X118.here hx rfl (hb hby d_jdk_52_method_21_11) rfl kq)
  show Win p e below _ T118 (mkF mt 12 #[.val (.ref a), .val (.int (1 : Int32)), .val (.ref b), .val (.int (1 : Int32)), .val (.int (2 : Int32)), .val (.int (1 : Int32)), .val (.int x0)] [(.int (1 : Int32)), (.ref a)])
  refine Win.st ?_ (own_cald (g := (mkF mt 12 #[.val (.ref a), .val (.int (1 : Int32)), .val (.ref b), .val (.int (1 : Int32)), .val (.int (2 : Int32)), .val (.int (1 : Int32)), .val (.int x0)] [(.int (1 : Int32)), (.ref a)])) X118 hx hZ e118 f119_35 (j := (1 : Int32)) (v := (.int x1)) (by decide) (by decide) rfl rfl rfl (hb hby d_jdk_52_method_21_12))
  show Win p e below _ T118 (mkF mt 13 #[.val (.ref a), .val (.int (1 : Int32)), .val (.ref b), .val (.int (1 : Int32)), .val (.int (2 : Int32)), .val (.int (1 : Int32)), .val (.int x0)] [(.int x1)])
  refine Win.st ?_ (fun tq kq => XS.istore X118.here hx rfl (hb hby d_jdk_52_method_21_13) rfl (l' := #[.val (.ref a), .val (.int (1 : Int32)), .val (.ref b), .val (.int (1 : Int32)), .val (.int (2 : Int32)), .val (.int (1 : Int32)), .val (.int x1)]) rfl kq)
  show Win p e below _ T118 (mkF mt 15 #[.val (.ref a), .val (.int (1 : Int32)), .val (.ref b), .val (.int (1 : Int32)), .val (.int (2 : Int32)), .val (.int (1 : Int32)), .val (.int x1)] [])
  refine Win.st ?_ (fun tq kq => XS.iload X118.here hx rfl (hb hby d_jdk_52_method_21_15) rfl kq)
  show Win p e below _ T118 (mkF mt 17 #[.val (.ref a), .val (.int (1 : Int32)), .val (.ref b), .val (.int (1 : Int32)), .val (.int (2 : Int32)), .val (.int (1 : Int32)), .val (.int x1)] [(.int x1)])
  refine Win.st ?_ (fun tq kq => XS.sipush X118.here hx rfl (hb hby d_jdk_52_method_21_17) kq)
  show Win p e below _ T118 (mkF mt 20 #[.val (.ref a), .val (.int (1 : Int32)), .val (.ref b), .val (.int (1 : Int32)), .val (.int (2 : Int32)), .val (.int (1 : Int32)), .val (.int x1)] [(.int (255 : Int32)), (.int x1)])
  refine Win.st ?_ (fun tq kq => XS.icmpYes X118.here hx rfl (pc0 := 20) (pc' := 26) rfl (hb hby d_jdk_52_method_21_20) rfl (flt (own_nlt (by rw [own_i255]; exact hp1.2))).2.2.2 (by decide) (by decide) kq)
  show Win p e below _ T118 (mkF mt 26 #[.val (.ref a), .val (.int (1 : Int32)), .val (.ref b), .val (.int (1 : Int32)), .val (.int (2 : Int32)), .val (.int (1 : Int32)), .val (.int x1)] [])
  refine Win.st ?_ (fun tq kq => XS.aloadN X118.here hx rfl (hb hby d_jdk_52_method_21_26) rfl rfl kq)
  show Win p e below _ T118 (mkF mt 27 #[.val (.ref a), .val (.int (1 : Int32)), .val (.ref b), .val (.int (1 : Int32)), .val (.int (2 : Int32)), .val (.int (1 : Int32)), .val (.int x1)] [(.ref b)])
  refine Win.st ?_ (fun tq kq => XS.iloadN X118.here hx rfl (hb hby d_jdk_52_method_21_27) rfl kq)
  show Win p e below _ T118 (mkF mt 28 #[.val (.ref a), .val (.int (1 : Int32)), .val (.ref b), .val (.int (1 : Int32)), .val (.int (2 : Int32)), .val (.int (1 : Int32)), .val (.int x1)] [(.int (1 : Int32)), (.ref b)])
  refine Win.st ?_ (fun tq kq => XS.iload X118.here hx rfl (hb hby d_jdk_52_method_21_28) rfl kq)
  show Win p e below _ T118 (mkF mt 30 #[.val (.ref a), .val (.int (1 : Int32)), .val (.ref b), .val (.int (1 : Int32)), .val (.int (2 : Int32)), .val (.int (1 : Int32)), .val (.int x1)] [(.int x1), (.int (1 : Int32)), (.ref b)])
  refine Win.st ?_ (fun tq kq => XS.i2b X118.here hx rfl (hb hby d_jdk_52_method_21_30) rfl kq)
  show Win p e below _ T118 (mkF mt 31 #[.val (.ref a), .val (.int (1 : Int32)), .val (.ref b), .val (.int (1 : Int32)), .val (.int (2 : Int32)), .val (.int (1 : Int32)), .val (.int x1)] [(.int (x1.toInt8.toInt32)), (.int (1 : Int32)), (.ref b)])
  obtain ⟨T122, h122, L122, X122, N122, e122, kp122, V122, st122⟩ := own_bast (g := (mkF mt 31 #[.val (.ref a), .val (.int (1 : Int32)), .val (.ref b), .val (.int (1 : Int32)), .val (.int (2 : Int32)), .val (.int (1 : Int32)), .val (.int x1)] [(.int (x1.toInt8.toInt32)), (.int (1 : Int32)), (.ref b)])) X118 hx hZ e118 N118 gb V118 (j := (1 : Int32)) (by decide) (by decide) (i := 1) rfl (by simp) rfl rfl (hb hby d_jdk_52_method_21_31)
  rw [own_b8] at V122
  replace V122 : Arv Z h122 b kb .byte (2 : Int32) ([(.int (x0.toInt8.toInt32)), (.int (x1.toInt8.toInt32))]) (.int (0 : Int32)) := V122
  have f123_79 := f119_35.keep kp122 (ninS nab nin0)
  have Z124 : n0 ≤ h122.size := Nat.le_trans Z120 kp122.1
  have K125 : Keep h0 h122 [b] := Keep.trans K121 kp122 (allS (Or.inl (List.mem_of_getElem? (i := 0) rfl)) all0)
  refine Win.st ?_ st122
  show Win p e below _ T122 (mkF mt 32 #[.val (.ref a), .val (.int (1 : Int32)), .val (.ref b), .val (.int (1 : Int32)), .val (.int (2 : Int32)), .val (.int (1 : Int32)), .val (.int x1)] [])
  refine Win.st ?_ (fun tq kq => XS.iinc X122.here hx rfl (hb hby d_jdk_52_method_21_32) rfl (l' := #[.val (.ref a), .val (.int (2 : Int32)), .val (.ref b), .val (.int (1 : Int32)), .val (.int (2 : Int32)), .val (.int (1 : Int32)), .val (.int x1)]) rfl kq)
  show Win p e below _ T122 (mkF mt 35 #[.val (.ref a), .val (.int (2 : Int32)), .val (.ref b), .val (.int (1 : Int32)), .val (.int (2 : Int32)), .val (.int (1 : Int32)), .val (.int x1)] [])
  refine Win.st ?_ (fun tq kq => XS.iinc X122.here hx rfl (hb hby d_jdk_52_method_21_35) rfl (l' := #[.val (.ref a), .val (.int (2 : Int32)), .val (.ref b), .val (.int (2 : Int32)), .val (.int (2 : Int32)), .val (.int (1 : Int32)), .val (.int x1)]) rfl kq)
  show Win p e below _ T122 (mkF mt 38 #[.val (.ref a), .val (.int (2 : Int32)), .val (.ref b), .val (.int (2 : Int32)), .val (.int (2 : Int32)), .val (.int (1 : Int32)), .val (.int x1)] [])
  refine Win.st ?_ (fun tq kq => XS.iinc X122.here hx rfl (hb hby d_jdk_52_method_21_38) rfl (l' := #[.val (.ref a), .val (.int (2 : Int32)), .val (.ref b), .val (.int (2 : Int32)), .val (.int (2 : Int32)), .val (.int (2 : Int32)), .val (.int x1)]) rfl kq)
  show Win p e below _ T122 (mkF mt 41 #[.val (.ref a), .val (.int (2 : Int32)), .val (.ref b), .val (.int (2 : Int32)), .val (.int (2 : Int32)), .val (.int (2 : Int32)), .val (.int x1)] [])
  refine Win.st ?_ (fun tq kq => XS.goto X122.here hx rfl (pc0 := 41) (pc' := 3) rfl (hb hby d_jdk_52_method_21_41) (by decide) (by decide) kq)
  show Win p e below _ T122 (mkF mt 3 #[.val (.ref a), .val (.int (2 : Int32)), .val (.ref b), .val (.int (2 : Int32)), .val (.int (2 : Int32)), .val (.int (2 : Int32)), .val (.int x1)] [])
  refine Win.st ?_ (fun tq kq => XS.iload X122.here hx rfl (hb hby d_jdk_52_method_21_3) rfl kq)
  show Win p e below _ T122 (mkF mt 5 #[.val (.ref a), .val (.int (2 : Int32)), .val (.ref b), .val (.int (2 : Int32)), .val (.int (2 : Int32)), .val (.int (2 : Int32)), .val (.int x1)] [(.int (2 : Int32))])
  refine Win.st ?_ (fun tq kq => XS.iload X122.here hx rfl (hb hby d_jdk_52_method_21_5) rfl kq)
  show Win p e below _ T122 (mkF mt 7 #[.val (.ref a), .val (.int (2 : Int32)), .val (.ref b), .val (.int (2 : Int32)), .val (.int (2 : Int32)), .val (.int (2 : Int32)), .val (.int x1)] [(.int (2 : Int32)), (.int (2 : Int32))])
  refine Win.st ?_ (fun tq kq => XS.icmpYes X122.here hx rfl (pc0 := 7) (pc' := 44) rfl (hb hby d_jdk_52_method_21_7) rfl (flt (Int32.lt_irrefl)).2.1 (by decide) (by decide) kq)
  show Win p e below _ T122 (mkF mt 44 #[.val (.ref a), .val (.int (2 : Int32)), .val (.ref b), .val (.int (2 : Int32)), .val (.int (2 : Int32)), .val (.int (2 : Int32)), .val (.int x1)] [])
  refine Win.st ?_ (fun tq kq => XS.iload X122.here hx rfl (hb hby d_jdk_52_method_21_44) rfl kq)
  show Win p e below _ T122 (mkF mt 46 #[.val (.ref a), .val (.int (2 : Int32)), .val (.ref b), .val (.int (2 : Int32)), .val (.int (2 : Int32)), .val (.int (2 : Int32)), .val (.int x1)] [(.int (2 : Int32))])
  exact Win.ret X122 hx hlk e122 hrt rfl (Or.inl ⟨rfl, Or.inl rfl, _, rfl⟩) (hb hby d_jdk_52_method_21_46) (by decide) (by decide) ⟨rfl, N122, K125, V122⟩
theorem ef_cmp3_2 (mt : MethodId) (a : Addr) : entryFrame mt #[(.ref a), (.int (0 : Int32)), (.int (2 : Int32))] 6 = mkF mt 0 #[.val (.ref a), .val (.int (0 : Int32)), .val (.int (2 : Int32)), .unset, .unset, .unset] [] := by first | (simp [entryFrame, mkF, argsToLocals, Value.category]; done) | rfl
def Q_cmp3_2 (Z : State) (a : Addr) (ka : ClassId) (x0 : Int32) (x1 : Int32) (h0 : Heap) (n0 : Nat) (v : Option Value) (h : Heap) (L : List Loc) : Prop := ∃ r : Addr, v = some (.ref r) ∧ Fr n0 L ∧ Keep h0 h [] ∧ n0 ≤ r ∧ h0.size ≤ r ∧ ∃ k : ClassId, Arv Z h r k .byte (2 : Int32) [(.int (x0.toInt8.toInt32)), (.int (x1.toInt8.toInt32))] (.int (0 : Int32))
set_option maxRecDepth 65536 in
set_option maxHeartbeats 40000000 in
theorem rm_cmp3_2 (l : Launch) (Z : State) (a0 : Array Value) (hw : ∀ d ∈ tables_1, d.before a0 Z = true) (ws : List Jvm.Cond) (a : Addr) (ka : ClassId) (x0 : Int32) (x1 : Int32) (h0 : Heap) (n0 : Nat) (Z0 : n0 ≤ h0.size) (VA : Arv Z h0 a ka .char (2 : Int32) [(.int x0), (.int x1)] (.int (0 : Int32))) (hp0 : own_B x0) (hp1 : own_B x1) :
    MetFree l (⟨"java/lang/StringUTF16", "compress", "([CII)[B"⟩ : MethodName) (head1 (Jvm.Cond.code (⟨"java/lang/StringUTF16", "compress", "([CII)[B"⟩ : MethodName) jdk_52_method_16_code 6 (some (.array .byte)) :: ws) ({ frames := 1, cells := 1, slots := 2, locals := 18 } : Room)) (fun aa UU => aa = #[(.ref a), (.int (0 : Int32)), (.int (2 : Int32))] ∧ Z.Warmed39 UU.vm ∧ UU.heap = h0) (fun _ _ _ _ _ => True) (fun _ UU oo UU' => ∃ vv LL, oo = .returned vv ∧ Q_cmp3_2 Z a ka x0 x1 h0 n0 vv UU'.heap LL ∧ FrameEnd UU oo UU' LL ({ frames := 1, cells := 1, slots := 2, locals := 18 } : Room).cells ({ frames := 1, cells := 1, slots := 2, locals := 18 } : Room).slots) := by
  refine MetFree.of_bodySF (plainFor_of_name pn_4) hisR ?_
  intro p e s mt args below meth cd s₁ Bd hml0 hP hK
  obtain ⟨hA, hZ, hh⟩ := hP
  have hx := Bd.exec
  have hby := Bd.bytes
  have hml : cd.maxLocals = 6 := hml0
  have hown : s.vm.findClass "java/lang/StringUTF16" = some mt.cls := findClass_of_methodNamed Bd.named
  have hnm := (name_of_methodNamed Bd.named Bd.method).1
  have hlk : meth.locks = false := BodyLoose.notSynchronized Bd
  have hrt := Bd.returns
  have X0 : Stand p l e ({ frames := 1, cells := 1, slots := 2, locals := 18 } : Room) s mt args below meth cd s₁ [] 0 0 := Stand.of_body Bd
  have e0 : s₁.heap = h0 := by rw [← hh, Bd.state]; rfl
  have N0 := Fr.nil n0
  show Win p e below (Ends s (Q_cmp3_2 Z a ka x0 x1 h0 n0) ({ frames := 1, cells := 1, slots := 2, locals := 18 } : Room).cells ({ frames := 1, cells := 1, slots := 2, locals := 18 } : Room).slots) s₁ (entryFrame mt args 6)
  rw [hA, ef_cmp3_2]
  refine Win.st ?_ (fun tq kq => XS.iloadN X0.here hx rfl (hb hby d_jdk_52_method_16_0) rfl kq)
  show Win p e below _ s₁ (mkF mt 1 #[.val (.ref a), .val (.int (0 : Int32)), .val (.int (2 : Int32)), .unset, .unset, .unset] [(.int (2 : Int32))])
  obtain ⟨T126, h126, k126, X126, e126, E126, A126, st126⟩ := newP X0 hx hZ (hw _ (List.mem_of_getElem? (i := 23) rfl)) e0 (g := (mkF mt 1 #[.val (.ref a), .val (.int (0 : Int32)), .val (.int (2 : Int32)), .unset, .unset, .unset] [(.int (2 : Int32))])) rfl (hb hby d_jdk_52_method_16_1) rfl (by decide) (cap := 2) (by decide) (by decide) (by decide) (by decide)
  obtain ⟨b126, gq126⟩ : ∃ z, z = h0.size := ⟨_, rfl⟩
  rw [← gq126] at A126 st126
  have ne127 : a ≠ b126 := own_new gq126 VA.lt
  have g128 : n0 ≤ b126 := own_newle Z0 gq126
  have z129 : h0.size ≤ b126 := own_newle (Keep.refl h0 []).1 gq126
  have ke126 := own_kext E126
  replace X126 : Stand p l e _ s mt args below meth cd T126 _ 1 2 := X126
  have f130_10 := VA.keep ke126 nin0
  have Z131 : n0 ≤ h126.size := Nat.le_trans Z0 ke126.1
  have K132 : Keep h0 h126 [] := Keep.trans (Keep.refl h0 []) ke126 all0
  have V126 : Arv Z h126 b126 k126 .byte (2 : Int32) [(.int (0 : Int32)), (.int (0 : Int32))] (.int (0 : Int32)) := (Arv.new A126 (by decide)).pad (pad_rep [] (.int (0 : Int32)) 2)
  refine Win.st ?_ st126
  show Win p e below _ T126 (mkF mt 3 #[.val (.ref a), .val (.int (0 : Int32)), .val (.int (2 : Int32)), .unset, .unset, .unset] [(.ref b126)])
  refine Win.st ?_ (fun tq kq => XS.astoreN X126.here hx rfl (hb hby d_jdk_52_method_16_3) rfl rfl (l' := #[.val (.ref a), .val (.int (0 : Int32)), .val (.int (2 : Int32)), .val (.ref b126), .unset, .unset]) rfl kq)
  show Win p e below _ T126 (mkF mt 4 #[.val (.ref a), .val (.int (0 : Int32)), .val (.int (2 : Int32)), .val (.ref b126), .unset, .unset] [])
  refine Win.st ?_ (fun tq kq => XS.aloadN X126.here hx rfl (hb hby d_jdk_52_method_16_4) rfl rfl kq)
  show Win p e below _ T126 (mkF mt 5 #[.val (.ref a), .val (.int (0 : Int32)), .val (.int (2 : Int32)), .val (.ref b126), .unset, .unset] [(.ref a)])
  refine Win.st ?_ (fun tq kq => XS.iloadN X126.here hx rfl (hb hby d_jdk_52_method_16_5) rfl kq)
  show Win p e below _ T126 (mkF mt 6 #[.val (.ref a), .val (.int (0 : Int32)), .val (.int (2 : Int32)), .val (.ref b126), .unset, .unset] [(.int (0 : Int32)), (.ref a)])
  refine Win.st ?_ (fun tq kq => XS.aloadN X126.here hx rfl (hb hby d_jdk_52_method_16_6) rfl rfl kq)
  show Win p e below _ T126 (mkF mt 7 #[.val (.ref a), .val (.int (0 : Int32)), .val (.int (2 : Int32)), .val (.ref b126), .unset, .unset] [(.ref b126), (.int (0 : Int32)), (.ref a)])
  refine Win.st ?_ (fun tq kq => XS.iconst X126.here hx rfl (hb hby d_jdk_52_method_16_7) kq)
  show Win p e below _ T126 (mkF mt 8 #[.val (.ref a), .val (.int (0 : Int32)), .val (.int (2 : Int32)), .val (.ref b126), .unset, .unset] [(.int (0 : Int32)), (.ref b126), (.int (0 : Int32)), (.ref a)])
  refine Win.st ?_ (fun tq kq => XS.iloadN X126.here hx rfl (hb hby d_jdk_52_method_16_8) rfl kq)
  show Win p e below _ T126 (mkF mt 9 #[.val (.ref a), .val (.int (0 : Int32)), .val (.int (2 : Int32)), .val (.ref b126), .unset, .unset] [(.int (2 : Int32)), (.int (0 : Int32)), (.ref b126), (.int (0 : Int32)), (.ref a)])
  obtain ⟨v133, _, ⟨T133, L133, k133, n133⟩, -, X133, ⟨Lc133, hQ133, l133, y133, z133⟩, st133⟩ := Jvm.LawKit.callS X126 hx (y := (⟨"java/lang/StringUTF16", "compress", "([CI[BII)I"⟩ : MethodName)) hown (mvT hZ (hw _ (List.mem_of_getElem? (i := 78) rfl))) (mvT hZ (hw _ (List.mem_of_getElem? (i := 79) rfl))) (mvT hZ (hw _ (List.mem_of_getElem? (i := 76) rfl))) (mvT hZ (hw _ (List.mem_of_getElem? (i := 80) rfl))) (by decide) (backOf (W := 0) (rm_cmp5_2 l Z a0 hw [] a b126 ka k126 x0 x1 h126 n0 Z131 f130_10 V126 g128 ne127 hp0 hp1) hZ (hw _ (List.mem_of_getElem? (i := 80) rfl)) (hw _ (List.mem_of_getElem? (i := 76) rfl)) (by decide) (by decide)) (g := (mkF mt 9 #[.val (.ref a), .val (.int (0 : Int32)), .val (.int (2 : Int32)), .val (.ref b126), .unset, .unset] [(.int (2 : Int32)), (.int (0 : Int32)), (.ref b126), (.int (0 : Int32)), (.ref a)])) rfl (by rw [hml]; rfl) (argsL := [(.ref a), (.int (0 : Int32)), (.ref b126), (.int (0 : Int32)), (.int (2 : Int32))]) (rest := []) (lenOf pd_9 rfl) rfl (by show 2 * 0 + _ ≤ _; exact Nat.le_of_eq rfl) (hb hby d_jdk_52_method_16_9) (fun _ _ => ⟨rfl, e126, (by decide : 1 + 0 ≤ _), (by decide : 2 + 0 ≤ _)⟩)
  dsimp only [Pt.U, Pt.locs, Pt.cells, Pt.slots] at X133 l133 y133 z133 st133 hQ133
  subst y133 z133
  replace X133 : Stand p l e _ s mt args below meth cd T133 L133 1 2 := X133
  obtain ⟨h133, e133⟩ : ∃ z, T133.heap = z := ⟨_, rfl⟩
  rw [e133] at hQ133
  obtain ⟨rfl, Nq133, K133, V133⟩ := hQ133
  have N133 : Fr n0 L133 := by rw [l133]; exact Fr.app N0 Nq133
  have f134_36 := f130_10.keep K133 (ninS ne127 nin0)
  have Z135 : n0 ≤ h133.size := Nat.le_trans Z131 K133.1
  have K136 : Keep h0 h133 [] := Keep.trans K132 K133 (allS (Or.inr z129) all0)
  refine Win.st ?_ st133
  show Win p e below _ T133 (mkF mt 12 #[.val (.ref a), .val (.int (0 : Int32)), .val (.int (2 : Int32)), .val (.ref b126), .unset, .unset] [(.int (2 : Int32))])
  refine Win.st ?_ (fun tq kq => XS.istore X133.here hx rfl (hb hby d_jdk_52_method_16_12) rfl (l' := #[.val (.ref a), .val (.int (0 : Int32)), .val (.int (2 : Int32)), .val (.ref b126), .val (.int (2 : Int32)), .unset]) rfl kq)
  show Win p e below _ T133 (mkF mt 14 #[.val (.ref a), .val (.int (0 : Int32)), .val (.int (2 : Int32)), .val (.ref b126), .val (.int (2 : Int32)), .unset] [])
  refine Win.st ?_ (fun tq kq => XS.iload X133.here hx rfl (hb hby d_jdk_52_method_16_14) rfl kq)
  show Win p e below _ T133 (mkF mt 16 #[.val (.ref a), .val (.int (0 : Int32)), .val (.int (2 : Int32)), .val (.ref b126), .val (.int (2 : Int32)), .unset] [(.int (2 : Int32))])
  refine Win.st ?_ (fun tq kq => XS.iloadN X133.here hx rfl (hb hby d_jdk_52_method_16_16) rfl kq)
  show Win p e below _ T133 (mkF mt 17 #[.val (.ref a), .val (.int (0 : Int32)), .val (.int (2 : Int32)), .val (.ref b126), .val (.int (2 : Int32)), .unset] [(.int (2 : Int32)), (.int (2 : Int32))])
  refine Win.st ?_ (fun tq kq => XS.icmpYes X133.here hx rfl (pc0 := 17) (pc' := 57) rfl (hb hby d_jdk_52_method_16_17) rfl (teq (rfl : (2 : Int32) = (2 : Int32))).1 (by decide) (by decide) kq)
  show Win p e below _ T133 (mkF mt 57 #[.val (.ref a), .val (.int (0 : Int32)), .val (.int (2 : Int32)), .val (.ref b126), .val (.int (2 : Int32)), .unset] [])
  refine Win.st ?_ (fun tq kq => XS.aloadN X133.here hx rfl (hb hby d_jdk_52_method_16_57) rfl rfl kq)
  show Win p e below _ T133 (mkF mt 58 #[.val (.ref a), .val (.int (0 : Int32)), .val (.int (2 : Int32)), .val (.ref b126), .val (.int (2 : Int32)), .unset] [(.ref b126)])
  exact Win.ret X133 hx hlk e133 hrt rfl (Or.inr (Or.inr (Or.inr (Or.inr ⟨rfl, rfl, rfl⟩)))) (hb hby d_jdk_52_method_16_58) (by decide) (by decide) ⟨_, rfl, N133, K136, g128, z129, _, V133⟩
theorem ef_cfa_2 (mt : MethodId) (b : Addr) : entryFrame mt #[(.ref b), (.int (2 : Int32))] 2 = mkF mt 0 #[.val (.ref b), .val (.int (2 : Int32))] [] := by first | (simp [entryFrame, mkF, argsToLocals, Value.category]; done) | rfl
def Q_cfa_2 (Z : State) (b : Addr) (kb : ClassId) (vs : List Value) (h0 : Heap) (n0 : Nat) (v : Option Value) (h : Heap) (L : List Loc) : Prop := v = some (.int (0 : Int32)) ∧ Fr n0 L ∧ h = h0
set_option maxRecDepth 65536 in
set_option maxHeartbeats 40000000 in
theorem rm_cfa_2 (l : Launch) (Z : State) (a0 : Array Value) (hw : ∀ d ∈ tables_1, d.before a0 Z = true) (ws : List Jvm.Cond) (b : Addr) (kb : ClassId) (vs : List Value) (h0 : Heap) (n0 : Nat) (Z0 : n0 ≤ h0.size) (VB : Arv Z h0 b kb .byte (2 : Int32) vs (.int (0 : Int32))) :
    MetFree l (⟨"java/lang/StringUTF16", "coderFromArrayLen", "([BI)B"⟩ : MethodName) (head1 (Jvm.Cond.code (⟨"java/lang/StringUTF16", "coderFromArrayLen", "([BI)B"⟩ : MethodName) jdk_52_method_15_code 2 (some .byte) :: ws) ({ frames := 0, cells := 0, slots := 0, locals := 0 } : Room)) (fun aa UU => aa = #[(.ref b), (.int (2 : Int32))] ∧ Z.Warmed39 UU.vm ∧ UU.heap = h0) (fun _ _ _ _ _ => True) (fun _ UU oo UU' => ∃ vv LL, oo = .returned vv ∧ Q_cfa_2 Z b kb vs h0 n0 vv UU'.heap LL ∧ FrameEnd UU oo UU' LL ({ frames := 0, cells := 0, slots := 0, locals := 0 } : Room).cells ({ frames := 0, cells := 0, slots := 0, locals := 0 } : Room).slots) := by
  refine MetFree.of_bodySF (plainFor_of_name pn_4) hisR ?_
  intro p e s mt args below meth cd s₁ Bd hml0 hP hK
  obtain ⟨hA, hZ, hh⟩ := hP
  have hx := Bd.exec
  have hby := Bd.bytes
  have hml : cd.maxLocals = 2 := hml0
  have hown : s.vm.findClass "java/lang/StringUTF16" = some mt.cls := findClass_of_methodNamed Bd.named
  have hnm := (name_of_methodNamed Bd.named Bd.method).1
  have hlk : meth.locks = false := BodyLoose.notSynchronized Bd
  have hrt := Bd.returns
  have X0 : Stand p l e ({ frames := 0, cells := 0, slots := 0, locals := 0 } : Room) s mt args below meth cd s₁ [] 0 0 := Stand.of_body Bd
  have e0 : s₁.heap = h0 := by rw [← hh, Bd.state]; rfl
  have N0 := Fr.nil n0
  show Win p e below (Ends s (Q_cfa_2 Z b kb vs h0 n0) ({ frames := 0, cells := 0, slots := 0, locals := 0 } : Room).cells ({ frames := 0, cells := 0, slots := 0, locals := 0 } : Room).slots) s₁ (entryFrame mt args 2)
  rw [hA, ef_cfa_2]
  refine Win.st ?_ (fun tq kq => XS.iloadN X0.here hx rfl (hb hby d_jdk_52_method_15_0) rfl kq)
  show Win p e below _ s₁ (mkF mt 1 #[.val (.ref b), .val (.int (2 : Int32))] [(.int (2 : Int32))])
  refine Win.st ?_ (fun tq kq => XS.aloadN X0.here hx rfl (hb hby d_jdk_52_method_15_1) rfl rfl kq)
  show Win p e below _ s₁ (mkF mt 2 #[.val (.ref b), .val (.int (2 : Int32))] [(.ref b), (.int (2 : Int32))])
  refine Win.st ?_ (own_alen (g := (mkF mt 2 #[.val (.ref b), .val (.int (2 : Int32))] [(.ref b), (.int (2 : Int32))])) X0 hx hZ e0 VB rfl rfl (hb hby d_jdk_52_method_15_2))
  show Win p e below _ s₁ (mkF mt 3 #[.val (.ref b), .val (.int (2 : Int32))] [(.int (2 : Int32)), (.int (2 : Int32))])
  refine Win.st ?_ (fun tq kq => XS.isub X0.here hx rfl (hb hby d_jdk_52_method_15_3) rfl kq)
  show Win p e below _ s₁ (mkF mt 4 #[.val (.ref b), .val (.int (2 : Int32))] [(.int ((2 : Int32) - (2 : Int32)))])
  refine Win.st ?_ (fun tq kq => XS.bipush X0.here hx rfl (hb hby d_jdk_52_method_15_4) kq)
  show Win p e below _ s₁ (mkF mt 6 #[.val (.ref b), .val (.int (2 : Int32))] [(.int (31 : Int32)), (.int ((2 : Int32) - (2 : Int32)))])
  refine Win.st ?_ (fun tq kq => XS.iushr X0.here hx rfl (hb hby d_jdk_52_method_15_6) rfl kq)
  show Win p e below _ s₁ (mkF mt 7 #[.val (.ref b), .val (.int (2 : Int32))] [(.int ((((2 : Int32) - (2 : Int32)).toUInt32 >>> ((31 : Int32) &&& 31).toUInt32).toInt32))])
  refine Win.st ?_ (fun tq kq => XS.i2b X0.here hx rfl (hb hby d_jdk_52_method_15_7) rfl kq)
  show Win p e below _ s₁ (mkF mt 8 #[.val (.ref b), .val (.int (2 : Int32))] [(.int (((((2 : Int32) - (2 : Int32)).toUInt32 >>> ((31 : Int32) &&& 31).toUInt32).toInt32).toInt8.toInt32))])
  exact Win.retN X0 hx hlk e0 (t := .byte) (z' := (0 : Int32)) hrt (by simp) (hb hby d_jdk_52_method_15_8) (by decide) (by decide) (by decide) ⟨rfl, N0, rfl⟩
theorem ef_si6_2 (mt : MethodId) (a : Addr) (c : Addr) : entryFrame mt #[(.ref a), (.ref c), (.int (0 : Int32)), (.int (2 : Int32)), .null] 6 = mkF mt 0 #[.val (.ref a), .val (.ref c), .val (.int (0 : Int32)), .val (.int (2 : Int32)), .val .null, .unset] [] := by first | (simp [entryFrame, mkF, argsToLocals, Value.category]; done) | rfl
def Q_si6_2 (Z : State) (a : Addr) (c : Addr) (cs : Int32) (kc : ClassId) (x0 : Int32) (x1 : Int32) (h0 : Heap) (n0 : Nat) (v : Option Value) (h : Heap) (L : List Loc) : Prop := v = none ∧ Fr n0 L ∧ Keep h0 h [a] ∧ Fld Z h a "java/lang/String" "coder" "B" (.int (0 : Int32)) ∧ ∃ (t : Addr) (k : ClassId), n0 ≤ t ∧ h0.size ≤ t ∧ Fld Z h a "java/lang/String" "value" "[B" (.ref t) ∧ Arv Z h t k .byte (2 : Int32) [(.int (x0.toInt8.toInt32)), (.int (x1.toInt8.toInt32))] (.int (0 : Int32))
set_option maxRecDepth 65536 in
set_option maxHeartbeats 40000000 in
theorem rm_si6_2 (l : Launch) (Z : State) (a0 : Array Value) (hw : ∀ d ∈ tables_1, d.before a0 Z = true) (ws : List Jvm.Cond) (a : Addr) (c : Addr) (cs : Int32) (kc : ClassId) (x0 : Int32) (x1 : Int32) (h0 : Heap) (n0 : Nat) (Z0 : n0 ≤ h0.size) (E : Exa Z h0 a "java/lang/String") (Fv : Fld Z h0 a "java/lang/String" "value" "[B" .null) (Fc : Fld Z h0 a "java/lang/String" "coder" "B" (.int (0 : Int32))) (ga : n0 ≤ a) (S0 : Sta Z Z.heap "java/lang/String" "COMPACT_STRINGS" "Z" (.int cs)) (hcs : ¬ cs = (0 : Int32)) (O : Old Z n0 h0) (VA : Arv Z h0 c kc .char (2 : Int32) [(.int x0), (.int x1)] (.int (0 : Int32))) (nca : c ≠ a) (hp0 : own_B x0) (hp1 : own_B x1) :
    MetFree l (⟨"java/lang/String", "<init>", "([CIILjava/lang/Void;)V"⟩ : MethodName) (head1 (Jvm.Cond.code (⟨"java/lang/String", "<init>", "([CIILjava/lang/Void;)V"⟩ : MethodName) jdk_42_method_149_code 6 none :: ws) ({ frames := 2, cells := 1, slots := 2, locals := 35 } : Room)) (fun aa UU => aa = #[(.ref a), (.ref c), (.int (0 : Int32)), (.int (2 : Int32)), .null] ∧ Z.Warmed39 UU.vm ∧ UU.heap = h0) (fun _ _ _ _ _ => True) (fun _ UU oo UU' => ∃ vv LL, oo = .returned vv ∧ Q_si6_2 Z a c cs kc x0 x1 h0 n0 vv UU'.heap LL ∧ FrameEnd UU oo UU' LL ({ frames := 2, cells := 1, slots := 2, locals := 35 } : Room).cells ({ frames := 2, cells := 1, slots := 2, locals := 35 } : Room).slots) := by
  refine MetFree.of_bodySF (plainFor_of_name pn_1) hisR ?_
  intro p e s mt args below meth cd s₁ Bd hml0 hP hK
  obtain ⟨hA, hZ, hh⟩ := hP
  have hx := Bd.exec
  have hby := Bd.bytes
  have hml : cd.maxLocals = 6 := hml0
  have hown : s.vm.findClass "java/lang/String" = some mt.cls := findClass_of_methodNamed Bd.named
  have hnm := (name_of_methodNamed Bd.named Bd.method).1
  have hlk : meth.locks = false := BodyLoose.notSynchronized Bd
  have hrt := Bd.returns
  have X0 : Stand p l e ({ frames := 2, cells := 1, slots := 2, locals := 35 } : Room) s mt args below meth cd s₁ [] 0 0 := Stand.of_body Bd
  have e0 : s₁.heap = h0 := by rw [← hh, Bd.state]; rfl
  have N0 := Fr.nil n0
  show Win p e below (Ends s (Q_si6_2 Z a c cs kc x0 x1 h0 n0) ({ frames := 2, cells := 1, slots := 2, locals := 35 } : Room).cells ({ frames := 2, cells := 1, slots := 2, locals := 35 } : Room).slots) s₁ (entryFrame mt args 6)
  rw [hA, ef_si6_2]
  refine Win.st ?_ (fun tq kq => XS.aloadN X0.here hx rfl (hb hby d_jdk_42_method_149_0) rfl rfl kq)
  show Win p e below _ s₁ (mkF mt 1 #[.val (.ref a), .val (.ref c), .val (.int (0 : Int32)), .val (.int (2 : Int32)), .val .null, .unset] [(.ref a)])
  obtain ⟨T137, X137, e137, st137⟩ := initO X0 hx hZ hown (hw _ (List.mem_of_getElem? (i := 19) rfl)) (hw _ (List.mem_of_getElem? (i := 20) rfl)) (hw _ (List.mem_of_getElem? (i := 21) rfl)) e0 (g := (mkF mt 1 #[.val (.ref a), .val (.ref c), .val (.int (0 : Int32)), .val (.int (2 : Int32)), .val .null, .unset] [(.ref a)])) rfl (by rw [hml]; rfl) rfl (hb hby d_jdk_42_method_149_1) (by decide) (W := 0) (by show 2 * 0 + _ ≤ _; exact Nat.le_of_eq rfl) (by decide)
  refine Win.st ?_ st137
  show Win p e below _ T137 (mkF mt 4 #[.val (.ref a), .val (.ref c), .val (.int (0 : Int32)), .val (.int (2 : Int32)), .val .null, .unset] [])
  refine Win.st ?_ (fun tq kq => XS.iloadN X137.here hx rfl (hb hby d_jdk_42_method_149_4) rfl kq)
  show Win p e below _ T137 (mkF mt 5 #[.val (.ref a), .val (.ref c), .val (.int (0 : Int32)), .val (.int (2 : Int32)), .val .null, .unset] [(.int (2 : Int32))])
  refine Win.st ?_ (fun tq kq => XS.ifYes X137.here hx rfl (pc0 := 5) (pc' := 27) rfl (hb hby d_jdk_42_method_149_5) rfl ((if0 _ _).trans (feq (by decide : ¬ ((2 : Int32) = (0 : Int32)))).2) (by decide) (by decide) kq)
  show Win p e below _ T137 (mkF mt 27 #[.val (.ref a), .val (.ref c), .val (.int (0 : Int32)), .val (.int (2 : Int32)), .val .null, .unset] [])
  obtain ⟨T138, X138, e138, st138⟩ := getS2 X137 hx hZ hown (host := "") (Or.inl (hw _ (List.mem_of_getElem? (i := 49) rfl))) Via.refl e137 (S0.ext O.2) (g := (mkF mt 27 #[.val (.ref a), .val (.ref c), .val (.int (0 : Int32)), .val (.int (2 : Int32)), .val .null, .unset] [])) rfl (hb hby d_jdk_42_method_149_27)
  refine Win.st ?_ st138
  show Win p e below _ T138 (mkF mt 30 #[.val (.ref a), .val (.ref c), .val (.int (0 : Int32)), .val (.int (2 : Int32)), .val .null, .unset] [(.int cs)])
  refine Win.st ?_ (fun tq kq => XS.ifNo X138.here hx rfl (hb hby d_jdk_42_method_149_30) rfl ((if0 _ _).trans (feq hcs).1) kq)
  show Win p e below _ T138 (mkF mt 33 #[.val (.ref a), .val (.ref c), .val (.int (0 : Int32)), .val (.int (2 : Int32)), .val .null, .unset] [])
  refine Win.st ?_ (fun tq kq => XS.aloadN X138.here hx rfl (hb hby d_jdk_42_method_149_33) rfl rfl kq)
  show Win p e below _ T138 (mkF mt 34 #[.val (.ref a), .val (.ref c), .val (.int (0 : Int32)), .val (.int (2 : Int32)), .val .null, .unset] [(.ref c)])
  refine Win.st ?_ (fun tq kq => XS.iloadN X138.here hx rfl (hb hby d_jdk_42_method_149_34) rfl kq)
  show Win p e below _ T138 (mkF mt 35 #[.val (.ref a), .val (.ref c), .val (.int (0 : Int32)), .val (.int (2 : Int32)), .val .null, .unset] [(.int (0 : Int32)), (.ref c)])
  refine Win.st ?_ (fun tq kq => XS.iloadN X138.here hx rfl (hb hby d_jdk_42_method_149_35) rfl kq)
  show Win p e below _ T138 (mkF mt 36 #[.val (.ref a), .val (.ref c), .val (.int (0 : Int32)), .val (.int (2 : Int32)), .val .null, .unset] [(.int (2 : Int32)), (.int (0 : Int32)), (.ref c)])
  obtain ⟨v139, _, ⟨T139, L139, k139, n139⟩, -, X139, ⟨Lc139, hQ139, l139, y139, z139⟩, st139⟩ := Jvm.LawKit.callS X138 hx (y := (⟨"java/lang/StringUTF16", "compress", "([CII)[B"⟩ : MethodName)) hown (mvT hZ (hw _ (List.mem_of_getElem? (i := 74) rfl))) (mvT hZ (hw _ (List.mem_of_getElem? (i := 75) rfl))) (mvT hZ (hw _ (List.mem_of_getElem? (i := 76) rfl))) (mvT hZ (hw _ (List.mem_of_getElem? (i := 77) rfl))) (by decide) (backOf (W := 0) (rm_cmp3_2 l Z a0 hw [] c kc x0 x1 h0 n0 Z0 VA hp0 hp1) hZ (hw _ (List.mem_of_getElem? (i := 77) rfl)) (hw _ (List.mem_of_getElem? (i := 76) rfl)) (by decide) (by decide)) (g := (mkF mt 36 #[.val (.ref a), .val (.ref c), .val (.int (0 : Int32)), .val (.int (2 : Int32)), .val .null, .unset] [(.int (2 : Int32)), (.int (0 : Int32)), (.ref c)])) rfl (by rw [hml]; rfl) (argsL := [(.ref c), (.int (0 : Int32)), (.int (2 : Int32))]) (rest := []) (lenOf pd_10 rfl) rfl (by show 2 * 0 + _ ≤ _; exact Nat.le_of_eq rfl) (hb hby d_jdk_42_method_149_36) (fun _ _ => ⟨rfl, e138, (by decide : 0 + 1 ≤ _), (by decide : 0 + 2 ≤ _)⟩)
  dsimp only [Pt.U, Pt.locs, Pt.cells, Pt.slots] at X139 l139 y139 z139 st139 hQ139
  subst y139 z139
  replace X139 : Stand p l e _ s mt args below meth cd T139 L139 1 2 := X139
  obtain ⟨h139, e139⟩ : ∃ z, T139.heap = z := ⟨_, rfl⟩
  rw [e139] at hQ139
  obtain ⟨tt, rfl, Nq139, K139, gt139, zt139, kt, V139⟩ := hQ139
  have N139 : Fr n0 L139 := by rw [l139]; exact Fr.app N0 Nq139
  have f140_28 := O.keep K139 all0
  have f140_29 := E.keep K139
  have f140_30 := Fv.keep K139 nin0
  have f140_31 := Fc.keep K139 nin0
  have f140_32 := VA.keep K139 nin0
  have Z141 : n0 ≤ h139.size := Nat.le_trans Z0 K139.1
  have K142 : Keep h0 h139 [a] := Keep.trans (Keep.refl h0 [a]) K139 all0
  have nat : a ≠ tt := Nat.ne_of_lt (Nat.lt_of_lt_of_le E.lt zt139)
  have szt : h0.size ≤ tt := Nat.le_trans (Keep.refl h0 [a]).1 zt139
  refine Win.st ?_ st139
  show Win p e below _ T139 (mkF mt 39 #[.val (.ref a), .val (.ref c), .val (.int (0 : Int32)), .val (.int (2 : Int32)), .val .null, .unset] [(.ref tt)])
  refine Win.st ?_ (fun tq kq => XS.astore X139.here hx rfl (hb hby d_jdk_42_method_149_39) rfl rfl (l' := #[.val (.ref a), .val (.ref c), .val (.int (0 : Int32)), .val (.int (2 : Int32)), .val .null, .val (.ref tt)]) rfl kq)
  show Win p e below _ T139 (mkF mt 41 #[.val (.ref a), .val (.ref c), .val (.int (0 : Int32)), .val (.int (2 : Int32)), .val .null, .val (.ref tt)] [])
  refine Win.st ?_ (fun tq kq => XS.aloadN X139.here hx rfl (hb hby d_jdk_42_method_149_41) rfl rfl kq)
  show Win p e below _ T139 (mkF mt 42 #[.val (.ref a), .val (.ref c), .val (.int (0 : Int32)), .val (.int (2 : Int32)), .val .null, .val (.ref tt)] [(.ref a)])
  refine Win.st ?_ (fun tq kq => XS.aload X139.here hx rfl (hb hby d_jdk_42_method_149_42) rfl rfl kq)
  show Win p e below _ T139 (mkF mt 44 #[.val (.ref a), .val (.ref c), .val (.int (0 : Int32)), .val (.int (2 : Int32)), .val .null, .val (.ref tt)] [(.ref tt), (.ref a)])
  refine Win.st ?_ (fun tq kq => XS.iloadN X139.here hx rfl (hb hby d_jdk_42_method_149_44) rfl kq)
  show Win p e below _ T139 (mkF mt 45 #[.val (.ref a), .val (.ref c), .val (.int (0 : Int32)), .val (.int (2 : Int32)), .val .null, .val (.ref tt)] [(.int (2 : Int32)), (.ref tt), (.ref a)])
  obtain ⟨v143, _, ⟨T143, L143, k143, n143⟩, -, X143, ⟨Lc143, hQ143, l143, y143, z143⟩, st143⟩ := Jvm.LawKit.callS X139 hx (y := (⟨"java/lang/StringUTF16", "coderFromArrayLen", "([BI)B"⟩ : MethodName)) hown (mvT hZ (hw _ (List.mem_of_getElem? (i := 81) rfl))) (mvT hZ (hw _ (List.mem_of_getElem? (i := 82) rfl))) (mvT hZ (hw _ (List.mem_of_getElem? (i := 76) rfl))) (mvT hZ (hw _ (List.mem_of_getElem? (i := 83) rfl))) (by decide) (backOf (W := 1) (rm_cfa_2 l Z a0 hw [] tt kt [(.int (x0.toInt8.toInt32)), (.int (x1.toInt8.toInt32))] h139 n0 Z141 V139) hZ (hw _ (List.mem_of_getElem? (i := 83) rfl)) (hw _ (List.mem_of_getElem? (i := 76) rfl)) (by decide) (by decide)) (g := (mkF mt 45 #[.val (.ref a), .val (.ref c), .val (.int (0 : Int32)), .val (.int (2 : Int32)), .val .null, .val (.ref tt)] [(.int (2 : Int32)), (.ref tt), (.ref a)])) rfl (by rw [hml]; rfl) (argsL := [(.ref tt), (.int (2 : Int32))]) (rest := [(.ref a)]) (lenOf pd_11 rfl) rfl (by show 2 * 0 + _ ≤ _; exact Nat.le_of_eq rfl) (hb hby d_jdk_42_method_149_45) (fun _ _ => ⟨rfl, e139, (by decide : 1 + 0 ≤ _), (by decide : 2 + 0 ≤ _)⟩)
  dsimp only [Pt.U, Pt.locs, Pt.cells, Pt.slots] at X143 l143 y143 z143 st143 hQ143
  subst y143 z143
  replace X143 : Stand p l e _ s mt args below meth cd T143 L143 1 2 := X143
  obtain ⟨h143, e143⟩ : ∃ z, T143.heap = z := ⟨_, rfl⟩
  rw [e143] at hQ143
  obtain ⟨rfl, Nq143, eh143⟩ := hQ143
  have N143 : Fr n0 L143 := by rw [l143]; exact Fr.app N139 Nq143
  rw [eh143] at e143
  refine Win.st ?_ st143
  show Win p e below _ T143 (mkF mt 48 #[.val (.ref a), .val (.ref c), .val (.int (0 : Int32)), .val (.int (2 : Int32)), .val .null, .val (.ref tt)] [(.int (0 : Int32)), (.ref a)])
  obtain ⟨T144, h144, X144, e144, W144, st144⟩ := putFN X143 hx hZ hown (hw _ (List.mem_of_getElem? (i := 29) rfl)) Via.refl e143 f140_31 f140_29 (Or.inr ⟨(hw _ (List.mem_of_getElem? (i := 25) rfl)), rfl, hnm⟩) (hw _ (List.mem_of_getElem? (i := 9) rfl)) (ty := .byte) (v' := (.int (0 : Int32))) (by decide) rfl (by decide) (g := (mkF mt 48 #[.val (.ref a), .val (.ref c), .val (.int (0 : Int32)), .val (.int (2 : Int32)), .val .null, .val (.ref tt)] [(.int (0 : Int32)), (.ref a)])) rfl rfl (hb hby d_jdk_42_method_149_48)
  obtain ⟨L144, X144, N144⟩ := own_hide X144 N143 ga
  have kp144 := Keep.of_wr W144
  have f144_61 := f140_30.other W144 (Or.inr (slot_ne (Or.inr (hw _ (List.mem_of_getElem? (i := 24) rfl))) (Or.inr (hw _ (List.mem_of_getElem? (i := 25) rfl))) (by decide) (t := (.array .byte)) (t' := .byte) (by decide) (by decide)))
  have fw144 := f140_31.same W144
  have f145_63 := f140_28.keep kp144 (allS ga all0)
  have f145_64 := f140_29.keep kp144
  have f145_65 := f140_32.keep kp144 (ninS nca nin0)
  have f145_66 := V139.keep kp144 (ninS (Ne.symm nat) nin0)
  have Z146 : n0 ≤ h144.size := Nat.le_trans Z141 kp144.1
  have K147 : Keep h0 h144 [a] := Keep.trans K142 kp144 (allS (Or.inl (List.mem_of_getElem? (i := 0) rfl)) all0)
  refine Win.st ?_ st144
  show Win p e below _ T144 (mkF mt 51 #[.val (.ref a), .val (.ref c), .val (.int (0 : Int32)), .val (.int (2 : Int32)), .val .null, .val (.ref tt)] [])
  refine Win.st ?_ (fun tq kq => XS.aloadN X144.here hx rfl (hb hby d_jdk_42_method_149_51) rfl rfl kq)
  show Win p e below _ T144 (mkF mt 52 #[.val (.ref a), .val (.ref c), .val (.int (0 : Int32)), .val (.int (2 : Int32)), .val .null, .val (.ref tt)] [(.ref a)])
  refine Win.st ?_ (fun tq kq => XS.aload X144.here hx rfl (hb hby d_jdk_42_method_149_52) rfl rfl kq)
  show Win p e below _ T144 (mkF mt 54 #[.val (.ref a), .val (.ref c), .val (.int (0 : Int32)), .val (.int (2 : Int32)), .val .null, .val (.ref tt)] [(.ref tt), (.ref a)])
  obtain ⟨T148, h148, X148, e148, W148, st148⟩ := putF X144 hx hZ hown (host := "") (Or.inl (hw _ (List.mem_of_getElem? (i := 28) rfl))) Via.refl e144 f144_61 f145_64 (Or.inr ⟨(hw _ (List.mem_of_getElem? (i := 24) rfl)), rfl, hnm⟩) (hw _ (List.mem_of_getElem? (i := 9) rfl)) (ty := (.array .byte)) (by decide) rfl rfl (g := (mkF mt 54 #[.val (.ref a), .val (.ref c), .val (.int (0 : Int32)), .val (.int (2 : Int32)), .val .null, .val (.ref tt)] [(.ref tt), (.ref a)])) rfl rfl (hb hby d_jdk_42_method_149_54)
  obtain ⟨L148, X148, N148⟩ := own_hide X148 N144 ga
  have kp148 := Keep.of_wr W148
  have fw148 := f144_61.same W148
  have f148_79 := fw144.other W148 (Or.inr (slot_ne (Or.inr (hw _ (List.mem_of_getElem? (i := 25) rfl))) (Or.inr (hw _ (List.mem_of_getElem? (i := 24) rfl))) (by decide) (t := .byte) (t' := (.array .byte)) (by decide) (by decide)))
  have f149_80 := f145_63.keep kp148 (allS ga all0)
  have f149_81 := f145_64.keep kp148
  have f149_82 := f145_65.keep kp148 (ninS nca nin0)
  have f149_83 := f145_66.keep kp148 (ninS (Ne.symm nat) nin0)
  have Z150 : n0 ≤ h148.size := Nat.le_trans Z146 kp148.1
  have K151 : Keep h0 h148 [a] := Keep.trans K147 kp148 (allS (Or.inl (List.mem_of_getElem? (i := 0) rfl)) all0)
  refine Win.st ?_ st148
  show Win p e below _ T148 (mkF mt 57 #[.val (.ref a), .val (.ref c), .val (.int (0 : Int32)), .val (.int (2 : Int32)), .val .null, .val (.ref tt)] [])
  exact Win.retV X148 hx hlk e148 hrt (hb hby d_jdk_42_method_149_57) (by decide) (by decide) ⟨rfl, N148, K151, f148_79, tt, kt, gt139, szt, fw148, f149_83⟩
theorem ef_si3_2 (mt : MethodId) (a : Addr) (c : Addr) : entryFrame mt #[(.ref a), (.ref c)] 2 = mkF mt 0 #[.val (.ref a), .val (.ref c)] [] := by first | (simp [entryFrame, mkF, argsToLocals, Value.category]; done) | rfl
def Q_si3_2 (Z : State) (a : Addr) (c : Addr) (cs : Int32) (kc : ClassId) (x0 : Int32) (x1 : Int32) (h0 : Heap) (n0 : Nat) (v : Option Value) (h : Heap) (L : List Loc) : Prop := v = none ∧ Fr n0 L ∧ Keep h0 h [a] ∧ Fld Z h a "java/lang/String" "coder" "B" (.int (0 : Int32)) ∧ ∃ (t : Addr) (k : ClassId), n0 ≤ t ∧ h0.size ≤ t ∧ Fld Z h a "java/lang/String" "value" "[B" (.ref t) ∧ Arv Z h t k .byte (2 : Int32) [(.int (x0.toInt8.toInt32)), (.int (x1.toInt8.toInt32))] (.int (0 : Int32))
set_option maxRecDepth 65536 in
set_option maxHeartbeats 40000000 in
theorem rm_si3_2 (l : Launch) (Z : State) (a0 : Array Value) (hw : ∀ d ∈ tables_1, d.before a0 Z = true) (ws : List Jvm.Cond) (a : Addr) (c : Addr) (cs : Int32) (kc : ClassId) (x0 : Int32) (x1 : Int32) (h0 : Heap) (n0 : Nat) (Z0 : n0 ≤ h0.size) (E : Exa Z h0 a "java/lang/String") (Fv : Fld Z h0 a "java/lang/String" "value" "[B" .null) (Fc : Fld Z h0 a "java/lang/String" "coder" "B" (.int (0 : Int32))) (ga : n0 ≤ a) (S0 : Sta Z Z.heap "java/lang/String" "COMPACT_STRINGS" "Z" (.int cs)) (hcs : ¬ cs = (0 : Int32)) (O : Old Z n0 h0) (VA : Arv Z h0 c kc .char (2 : Int32) [(.int x0), (.int x1)] (.int (0 : Int32))) (nca : c ≠ a) (hp0 : own_B x0) (hp1 : own_B x1) :
    MetFree l (⟨"java/lang/String", "<init>", "([C)V"⟩ : MethodName) (head1 (Jvm.Cond.code (⟨"java/lang/String", "<init>", "([C)V"⟩ : MethodName) jdk_42_method_3_code 2 none :: ws) ({ frames := 3, cells := 1, slots := 2, locals := 52 } : Room)) (fun aa UU => aa = #[(.ref a), (.ref c)] ∧ Z.Warmed39 UU.vm ∧ UU.heap = h0) (fun _ _ _ _ _ => True) (fun _ UU oo UU' => ∃ vv LL, oo = .returned vv ∧ Q_si3_2 Z a c cs kc x0 x1 h0 n0 vv UU'.heap LL ∧ FrameEnd UU oo UU' LL ({ frames := 3, cells := 1, slots := 2, locals := 52 } : Room).cells ({ frames := 3, cells := 1, slots := 2, locals := 52 } : Room).slots) := by
  refine MetFree.of_bodySF (plainFor_of_name pn_1) hisR ?_
  intro p e s mt args below meth cd s₁ Bd hml0 hP hK
  obtain ⟨hA, hZ, hh⟩ := hP
  have hx := Bd.exec
  have hby := Bd.bytes
  have hml : cd.maxLocals = 2 := hml0
  have hown : s.vm.findClass "java/lang/String" = some mt.cls := findClass_of_methodNamed Bd.named
  have hnm := (name_of_methodNamed Bd.named Bd.method).1
  have hlk : meth.locks = false := BodyLoose.notSynchronized Bd
  have hrt := Bd.returns
  have X0 : Stand p l e ({ frames := 3, cells := 1, slots := 2, locals := 52 } : Room) s mt args below meth cd s₁ [] 0 0 := Stand.of_body Bd
  have e0 : s₁.heap = h0 := by rw [← hh, Bd.state]; rfl
  have N0 := Fr.nil n0
  show Win p e below (Ends s (Q_si3_2 Z a c cs kc x0 x1 h0 n0) ({ frames := 3, cells := 1, slots := 2, locals := 52 } : Room).cells ({ frames := 3, cells := 1, slots := 2, locals := 52 } : Room).slots) s₁ (entryFrame mt args 2)
  rw [hA, ef_si3_2]
  refine Win.st ?_ (fun tq kq => XS.aloadN X0.here hx rfl (hb hby d_jdk_42_method_3_0) rfl rfl kq)
  show Win p e below _ s₁ (mkF mt 1 #[.val (.ref a), .val (.ref c)] [(.ref a)])
  refine Win.st ?_ (fun tq kq => XS.aloadN X0.here hx rfl (hb hby d_jdk_42_method_3_1) rfl rfl kq)
  show Win p e below _ s₁ (mkF mt 2 #[.val (.ref a), .val (.ref c)] [(.ref c), (.ref a)])
  refine Win.st ?_ (fun tq kq => XS.iconst X0.here hx rfl (hb hby d_jdk_42_method_3_2) kq)
  show Win p e below _ s₁ (mkF mt 3 #[.val (.ref a), .val (.ref c)] [(.int (0 : Int32)), (.ref c), (.ref a)])
  refine Win.st ?_ (fun tq kq => XS.aloadN X0.here hx rfl (hb hby d_jdk_42_method_3_3) rfl rfl kq)
  show Win p e below _ s₁ (mkF mt 4 #[.val (.ref a), .val (.ref c)] [(.ref c), (.int (0 : Int32)), (.ref c), (.ref a)])
  refine Win.st ?_ (own_alen (g := (mkF mt 4 #[.val (.ref a), .val (.ref c)] [(.ref c), (.int (0 : Int32)), (.ref c), (.ref a)])) X0 hx hZ e0 VA rfl rfl (hb hby d_jdk_42_method_3_4))
  show Win p e below _ s₁ (mkF mt 5 #[.val (.ref a), .val (.ref c)] [(.int (2 : Int32)), (.int (0 : Int32)), (.ref c), (.ref a)])
  refine Win.st ?_ (fun tq kq => XS.aconstNull X0.here hx rfl (hb hby d_jdk_42_method_3_5) kq)
  show Win p e below _ s₁ (mkF mt 6 #[.val (.ref a), .val (.ref c)] [.null, (.int (2 : Int32)), (.int (0 : Int32)), (.ref c), (.ref a)])
  obtain ⟨v152, _, ⟨T152, L152, k152, n152⟩, -, X152, ⟨Lc152, hQ152, l152, y152, z152⟩, st152⟩ := X0.specialBack hx (y := (⟨"java/lang/String", "<init>", "([CIILjava/lang/Void;)V"⟩ : MethodName)) rfl hown (mvT hZ (hw _ (List.mem_of_getElem? (i := 15) rfl))) (mvT hZ (hw _ (List.mem_of_getElem? (i := 16) rfl))) (mvT hZ (hw _ (List.mem_of_getElem? (i := 18) rfl))) (by decide) (backOf (W := 0) (rm_si6_2 l Z a0 hw [] a c cs kc x0 x1 h0 n0 Z0 E Fv Fc ga S0 hcs O VA nca hp0 hp1) hZ (hw _ (List.mem_of_getElem? (i := 18) rfl)) (hw _ (List.mem_of_getElem? (i := 10) rfl)) (by decide) (by decide)) (g := (mkF mt 6 #[.val (.ref a), .val (.ref c)] [.null, (.int (2 : Int32)), (.int (0 : Int32)), (.ref c), (.ref a)])) rfl (by rw [hml]; rfl) (Steps.refl _) (a := a) (argsL := [(.ref c), (.int (0 : Int32)), (.int (2 : Int32)), .null]) (rest := []) (lenOf pd_1 rfl) rfl (by show 2 * 0 + _ ≤ _; exact Nat.le_of_eq rfl) (hb hby d_jdk_42_method_3_6) (fun _ _ => ⟨rfl, e0, (by decide : 0 + 1 ≤ _), (by decide : 0 + 2 ≤ _)⟩)
  dsimp only [Pt.U, Pt.locs, Pt.cells, Pt.slots] at X152 l152 y152 z152 st152 hQ152
  subst y152 z152
  replace X152 : Stand p l e _ s mt args below meth cd T152 L152 1 2 := X152
  obtain ⟨h152, e152⟩ : ∃ z, T152.heap = z := ⟨_, rfl⟩
  rw [e152] at hQ152
  obtain ⟨rfl, Nq152, K152, fc152, tt, kt, gt152, zt152, fv152, V152⟩ := hQ152
  have N152 : Fr n0 L152 := by rw [l152]; exact Fr.app N0 Nq152
  have f153_20 := O.keep K152 (allS ga all0)
  have f153_21 := E.keep K152
  have f153_22 := VA.keep K152 (ninS nca nin0)
  have Z154 : n0 ≤ h152.size := Nat.le_trans Z0 K152.1
  have K155 : Keep h0 h152 [a] := Keep.trans (Keep.refl h0 [a]) K152 (allS (Or.inl (List.mem_of_getElem? (i := 0) rfl)) all0)
  refine Win.tr ?_ st152
  show Win p e below _ T152 (mkF mt 9 #[.val (.ref a), .val (.ref c)] [])
  exact Win.retV X152 hx hlk e152 hrt (hb hby d_jdk_42_method_3_9) (by decide) (by decide) ⟨rfl, N152, K155, fc152, tt, kt, gt152, zt152, fv152, V152⟩
theorem d_method_4_35 : decode method_4_code 35 = .ok (.iload_n 0, 1) := by decide +kernel
theorem d_method_4_36 : decode method_4_code 36 = .ok (.iconst 2, 1) := by decide +kernel
theorem d_method_4_37 : decode method_4_code 37 = .ok (.if_icmp .ne 22, 3) := by decide +kernel
theorem d_method_4_40 : decode method_4_code 40 = .ok (.new 24, 3) := by decide +kernel
theorem d_method_4_43 : decode method_4_code 43 = .ok (.dup, 1) := by decide +kernel
theorem d_method_4_44 : decode method_4_code 44 = .ok (.iconst 2, 1) := by decide +kernel
theorem d_method_4_45 : decode method_4_code 45 = .ok (.newarray .char, 2) := by decide +kernel
theorem d_method_4_47 : decode method_4_code 47 = .ok (.dup, 1) := by decide +kernel
theorem d_method_4_48 : decode method_4_code 48 = .ok (.iconst 0, 1) := by decide +kernel
theorem d_method_4_49 : decode method_4_code 49 = .ok (.iload_n 1, 1) := by decide +kernel
theorem d_method_4_50 : decode method_4_code 50 = .ok (.castore, 1) := by decide +kernel
theorem d_method_4_51 : decode method_4_code 51 = .ok (.dup, 1) := by decide +kernel
theorem d_method_4_52 : decode method_4_code 52 = .ok (.iconst 1, 1) := by decide +kernel
theorem d_method_4_53 : decode method_4_code 53 = .ok (.iload_n 2, 1) := by decide +kernel
theorem d_method_4_54 : decode method_4_code 54 = .ok (.castore, 1) := by decide +kernel
theorem d_method_4_55 : decode method_4_code 55 = .ok (.invokespecial 26, 3) := by decide +kernel
theorem d_method_4_58 : decode method_4_code 58 = .ok (.areturn, 1) := by decide +kernel
theorem ef_make_2 (mt : MethodId) (x0 : Int32) (x1 : Int32) (x2 : Int32) (x3 : Int32) : entryFrame mt #[(.int (2 : Int32)), (.int x0), (.int x1), (.int x2), (.int x3)] 5 = mkF mt 0 #[.val (.int (2 : Int32)), .val (.int x0), .val (.int x1), .val (.int x2), .val (.int x3)] [] := by first | (simp [entryFrame, mkF, argsToLocals, Value.category]; done) | rfl
def Q_make_2 (Z : State) (x0 : Int32) (x1 : Int32) (x2 : Int32) (x3 : Int32) (cs : Int32) (h0 : Heap) (n0 : Nat) (v : Option Value) (h : Heap) (L : List Loc) : Prop := ∃ r : Addr, v = some (.ref r) ∧ Fr n0 L ∧ n0 ≤ h.size ∧ Old Z n0 h ∧ ∃ (t : Addr) (k : ClassId), Exa Z h r "java/lang/String" ∧ Fld Z h r "java/lang/String" "value" "[B" (.ref t) ∧ Fld Z h r "java/lang/String" "coder" "B" (.int (0 : Int32)) ∧ Arv Z h t k .byte (2 : Int32) [(.int (x0.toInt8.toInt32)), (.int (x1.toInt8.toInt32))] (.int (0 : Int32))
set_option maxRecDepth 65536 in
set_option maxHeartbeats 40000000 in
theorem rm_make_2 (l : Launch) (Z : State) (a0 : Array Value) (hw : ∀ d ∈ tables_1, d.before a0 Z = true) (ws : List Jvm.Cond) (x0 : Int32) (x1 : Int32) (x2 : Int32) (x3 : Int32) (cs : Int32) (h0 : Heap) (n0 : Nat) (Z0 : n0 ≤ h0.size) (S0 : Sta Z Z.heap "java/lang/String" "COMPACT_STRINGS" "Z" (.int cs)) (hcs : ¬ cs = (0 : Int32)) (O : Old Z n0 h0) (hp0 : own_B x0) (hp1 : own_B x1) :
    MetFree l (⟨"com/example/foldkey/foldkey/store/TokenHoldsSystemPinLaw", "make", "(ICCCC)Ljava/lang/String;"⟩ : MethodName) (head1 (Jvm.Cond.code (⟨"com/example/foldkey/foldkey/store/TokenHoldsSystemPinLaw", "make", "(ICCCC)Ljava/lang/String;"⟩ : MethodName) method_4_code 5 (some (.object "java/lang/String")) :: ws) ({ frames := 4, cells := 3, slots := 8, locals := 66 } : Room)) (fun aa UU => aa = #[(.int (2 : Int32)), (.int x0), (.int x1), (.int x2), (.int x3)] ∧ Z.Warmed39 UU.vm ∧ UU.heap = h0) (fun _ _ _ _ _ => True) (fun _ UU oo UU' => ∃ vv LL, oo = .returned vv ∧ Q_make_2 Z x0 x1 x2 x3 cs h0 n0 vv UU'.heap LL ∧ FrameEnd UU oo UU' LL ({ frames := 4, cells := 3, slots := 8, locals := 66 } : Room).cells ({ frames := 4, cells := 3, slots := 8, locals := 66 } : Room).slots) := by
  refine MetFree.of_bodySF (plainFor_of_name pn_2) hisR ?_
  intro p e s mt args below meth cd s₁ Bd hml0 hP hK
  obtain ⟨hA, hZ, hh⟩ := hP
  have hx := Bd.exec
  have hby := Bd.bytes
  have hml : cd.maxLocals = 5 := hml0
  have hown : s.vm.findClass "com/example/foldkey/foldkey/store/TokenHoldsSystemPinLaw" = some mt.cls := findClass_of_methodNamed Bd.named
  have hnm := (name_of_methodNamed Bd.named Bd.method).1
  have hlk : meth.locks = false := BodyLoose.notSynchronized Bd
  have hrt := Bd.returns
  have X0 : Stand p l e ({ frames := 4, cells := 3, slots := 8, locals := 66 } : Room) s mt args below meth cd s₁ [] 0 0 := Stand.of_body Bd
  have e0 : s₁.heap = h0 := by rw [← hh, Bd.state]; rfl
  have N0 := Fr.nil n0
  show Win p e below (Ends s (Q_make_2 Z x0 x1 x2 x3 cs h0 n0) ({ frames := 4, cells := 3, slots := 8, locals := 66 } : Room).cells ({ frames := 4, cells := 3, slots := 8, locals := 66 } : Room).slots) s₁ (entryFrame mt args 5)
  rw [hA, ef_make_2]
  refine Win.st ?_ (fun tq kq => XS.iloadN X0.here hx rfl (hb hby d_method_4_0) rfl kq)
  show Win p e below _ s₁ (mkF mt 1 #[.val (.int (2 : Int32)), .val (.int x0), .val (.int x1), .val (.int x2), .val (.int x3)] [(.int (2 : Int32))])
  refine Win.st ?_ (fun tq kq => XS.ifYes X0.here hx rfl (pc0 := 1) (pc' := 15) rfl (hb hby d_method_4_1) rfl ((if0 _ _).trans (feq (by decide : ¬ ((2 : Int32) = (0 : Int32)))).2) (by decide) (by decide) kq)
  show Win p e below _ s₁ (mkF mt 15 #[.val (.int (2 : Int32)), .val (.int x0), .val (.int x1), .val (.int x2), .val (.int x3)] [])
  refine Win.st ?_ (fun tq kq => XS.iloadN X0.here hx rfl (hb hby d_method_4_15) rfl kq)
  show Win p e below _ s₁ (mkF mt 16 #[.val (.int (2 : Int32)), .val (.int x0), .val (.int x1), .val (.int x2), .val (.int x3)] [(.int (2 : Int32))])
  refine Win.st ?_ (fun tq kq => XS.iconst X0.here hx rfl (hb hby d_method_4_16) kq)
  show Win p e below _ s₁ (mkF mt 17 #[.val (.int (2 : Int32)), .val (.int x0), .val (.int x1), .val (.int x2), .val (.int x3)] [(.int (1 : Int32)), (.int (2 : Int32))])
  refine Win.st ?_ (fun tq kq => XS.icmpYes X0.here hx rfl (pc0 := 17) (pc' := 35) rfl (hb hby d_method_4_17) rfl (feq (by decide : ¬ ((2 : Int32) = (1 : Int32)))).2 (by decide) (by decide) kq)
  show Win p e below _ s₁ (mkF mt 35 #[.val (.int (2 : Int32)), .val (.int x0), .val (.int x1), .val (.int x2), .val (.int x3)] [])
  refine Win.st ?_ (fun tq kq => XS.iloadN X0.here hx rfl (hb hby d_method_4_35) rfl kq)
  show Win p e below _ s₁ (mkF mt 36 #[.val (.int (2 : Int32)), .val (.int x0), .val (.int x1), .val (.int x2), .val (.int x3)] [(.int (2 : Int32))])
  refine Win.st ?_ (fun tq kq => XS.iconst X0.here hx rfl (hb hby d_method_4_36) kq)
  show Win p e below _ s₁ (mkF mt 37 #[.val (.int (2 : Int32)), .val (.int x0), .val (.int x1), .val (.int x2), .val (.int x3)] [(.int (2 : Int32)), (.int (2 : Int32))])
  refine Win.st ?_ (fun tq kq => XS.icmpNo X0.here hx rfl (hb hby d_method_4_37) rfl (teq (rfl : (2 : Int32) = (2 : Int32))).2 kq)
  show Win p e below _ s₁ (mkF mt 40 #[.val (.int (2 : Int32)), .val (.int x0), .val (.int x1), .val (.int x2), .val (.int x3)] [])
  obtain ⟨T156, h156, X156, e156, E156, A156, D156, -, st156⟩ := newO X0 hx hZ hown (hw _ (List.mem_of_getElem? (i := 8) rfl)) (hw _ (List.mem_of_getElem? (i := 9) rfl)) (hw _ (List.mem_of_getElem? (i := 10) rfl)) e0 (g := (mkF mt 40 #[.val (.int (2 : Int32)), .val (.int x0), .val (.int x1), .val (.int x2), .val (.int x3)] [])) rfl (hb hby d_method_4_40) (by decide) (by decide)
  obtain ⟨b156, gq156⟩ : ∃ z, z = h0.size := ⟨_, rfl⟩
  rw [← gq156] at A156 D156 st156
  have g157 : n0 ≤ b156 := own_newle Z0 gq156
  have ke156 := own_kext E156
  replace X156 : Stand p l e _ s mt args below meth cd T156 _ 1 4 := X156
  have f158_22 := O.keep ke156 all0
  have Z159 : n0 ≤ h156.size := Nat.le_trans Z0 ke156.1
  have fn156_value : Fld Z h156 b156 "java/lang/String" "value" "[B" .null := D156 (Or.inr (hw _ (List.mem_of_getElem? (i := 24) rfl))) (ty := (.array .byte)) (by decide)
  have fn156_coder : Fld Z h156 b156 "java/lang/String" "coder" "B" (.int (0 : Int32)) := D156 (Or.inr (hw _ (List.mem_of_getElem? (i := 25) rfl))) (ty := .byte) (by decide)
  refine Win.st ?_ st156
  show Win p e below _ T156 (mkF mt 43 #[.val (.int (2 : Int32)), .val (.int x0), .val (.int x1), .val (.int x2), .val (.int x3)] [(.ref b156)])
  refine Win.st ?_ (fun tq kq => XS.dup X156.here hx rfl (hb hby d_method_4_43) rfl rfl kq)
  show Win p e below _ T156 (mkF mt 44 #[.val (.int (2 : Int32)), .val (.int x0), .val (.int x1), .val (.int x2), .val (.int x3)] [(.ref b156), (.ref b156)])
  refine Win.st ?_ (fun tq kq => XS.iconst X156.here hx rfl (hb hby d_method_4_44) kq)
  show Win p e below _ T156 (mkF mt 45 #[.val (.int (2 : Int32)), .val (.int x0), .val (.int x1), .val (.int x2), .val (.int x3)] [(.int (2 : Int32)), (.ref b156), (.ref b156)])
  obtain ⟨T160, h160, k160, X160, e160, E160, A160, st160⟩ := newP X156 hx hZ (hw _ (List.mem_of_getElem? (i := 11) rfl)) e156 (g := (mkF mt 45 #[.val (.int (2 : Int32)), .val (.int x0), .val (.int x1), .val (.int x2), .val (.int x3)] [(.int (2 : Int32)), (.ref b156), (.ref b156)])) rfl (hb hby d_method_4_45) rfl (by decide) (cap := 2) (by decide) (by decide) (by decide) (by decide)
  obtain ⟨b160, gq160⟩ : ∃ z, z = h156.size := ⟨_, rfl⟩
  rw [← gq160] at A160 st160
  have ne161 : b156 ≠ b160 := own_new gq160 A156.lt
  have g162 : n0 ≤ b160 := own_newle Z159 gq160
  have ke160 := own_kext E160
  replace X160 : Stand p l e _ s mt args below meth cd T160 _ 2 6 := X160
  have f163_39 := f158_22.keep ke160 all0
  have f163_40 := A156.keep ke160
  have f163_41 := fn156_value.keep ke160 nin0
  have f163_42 := fn156_coder.keep ke160 nin0
  have Z164 : n0 ≤ h160.size := Nat.le_trans Z159 ke160.1
  have V160 : Arv Z h160 b160 k160 .char (2 : Int32) [(.int (0 : Int32)), (.int (0 : Int32))] (.int (0 : Int32)) := (Arv.new A160 (by decide)).pad (pad_rep [] (.int (0 : Int32)) 2)
  refine Win.st ?_ st160
  show Win p e below _ T160 (mkF mt 47 #[.val (.int (2 : Int32)), .val (.int x0), .val (.int x1), .val (.int x2), .val (.int x3)] [(.ref b160), (.ref b156), (.ref b156)])
  refine Win.st ?_ (fun tq kq => XS.dup X160.here hx rfl (hb hby d_method_4_47) rfl rfl kq)
  show Win p e below _ T160 (mkF mt 48 #[.val (.int (2 : Int32)), .val (.int x0), .val (.int x1), .val (.int x2), .val (.int x3)] [(.ref b160), (.ref b160), (.ref b156), (.ref b156)])
  refine Win.st ?_ (fun tq kq => XS.iconst X160.here hx rfl (hb hby d_method_4_48) kq)
  show Win p e below _ T160 (mkF mt 49 #[.val (.int (2 : Int32)), .val (.int x0), .val (.int x1), .val (.int x2), .val (.int x3)] [(.int (0 : Int32)), (.ref b160), (.ref b160), (.ref b156), (.ref b156)])
  refine Win.st ?_ (fun tq kq => XS.iloadN X160.here hx rfl (hb hby d_method_4_49) rfl kq)
  show Win p e below _ T160 (mkF mt 50 #[.val (.int (2 : Int32)), .val (.int x0), .val (.int x1), .val (.int x2), .val (.int x3)] [(.int x0), (.int (0 : Int32)), (.ref b160), (.ref b160), (.ref b156), (.ref b156)])
  obtain ⟨T165, h165, L165, X165, N165, e165, kp165, V165, st165⟩ := own_cast (g := (mkF mt 50 #[.val (.int (2 : Int32)), .val (.int x0), .val (.int x1), .val (.int x2), .val (.int x3)] [(.int x0), (.int (0 : Int32)), (.ref b160), (.ref b160), (.ref b156), (.ref b156)])) X160 hx hZ e160 N0 g162 V160 (j := (0 : Int32)) (by decide) (by decide) (i := 0) rfl (by simp) rfl rfl (hb hby d_method_4_50)
  rw [own_char hp0] at V165
  replace V165 : Arv Z h165 b160 k160 .char (2 : Int32) ([(.int x0), (.int (0 : Int32))]) (.int (0 : Int32)) := V165
  have f166_56 := f163_39.keep kp165 (allS g162 all0)
  have f166_57 := f163_40.keep kp165
  have f166_58 := f163_41.keep kp165 (ninS ne161 nin0)
  have f166_59 := f163_42.keep kp165 (ninS ne161 nin0)
  have Z167 : n0 ≤ h165.size := Nat.le_trans Z164 kp165.1
  refine Win.st ?_ st165
  show Win p e below _ T165 (mkF mt 51 #[.val (.int (2 : Int32)), .val (.int x0), .val (.int x1), .val (.int x2), .val (.int x3)] [(.ref b160), (.ref b156), (.ref b156)])
  refine Win.st ?_ (fun tq kq => XS.dup X165.here hx rfl (hb hby d_method_4_51) rfl rfl kq)
  show Win p e below _ T165 (mkF mt 52 #[.val (.int (2 : Int32)), .val (.int x0), .val (.int x1), .val (.int x2), .val (.int x3)] [(.ref b160), (.ref b160), (.ref b156), (.ref b156)])
  refine Win.st ?_ (fun tq kq => XS.iconst X165.here hx rfl (hb hby d_method_4_52) kq)
  show Win p e below _ T165 (mkF mt 53 #[.val (.int (2 : Int32)), .val (.int x0), .val (.int x1), .val (.int x2), .val (.int x3)] [(.int (1 : Int32)), (.ref b160), (.ref b160), (.ref b156), (.ref b156)])
  refine Win.st ?_ (fun tq kq => XS.iloadN X165.here hx rfl (hb hby d_method_4_53) rfl kq)
  show Win p e below _ T165 (mkF mt 54 #[.val (.int (2 : Int32)), .val (.int x0), .val (.int x1), .val (.int x2), .val (.int x3)] [(.int x1), (.int (1 : Int32)), (.ref b160), (.ref b160), (.ref b156), (.ref b156)])
  obtain ⟨T168, h168, L168, X168, N168, e168, kp168, V168, st168⟩ := own_cast (g := (mkF mt 54 #[.val (.int (2 : Int32)), .val (.int x0), .val (.int x1), .val (.int x2), .val (.int x3)] [(.int x1), (.int (1 : Int32)), (.ref b160), (.ref b160), (.ref b156), (.ref b156)])) X165 hx hZ e165 N165 g162 V165 (j := (1 : Int32)) (by decide) (by decide) (i := 1) rfl (by simp) rfl rfl (hb hby d_method_4_54)
  rw [own_char hp1] at V168
  replace V168 : Arv Z h168 b160 k160 .char (2 : Int32) ([(.int x0), (.int x1)]) (.int (0 : Int32)) := V168
  have f169_72 := f166_56.keep kp168 (allS g162 all0)
  have f169_73 := f166_57.keep kp168
  have f169_74 := f166_58.keep kp168 (ninS ne161 nin0)
  have f169_75 := f166_59.keep kp168 (ninS ne161 nin0)
  have Z170 : n0 ≤ h168.size := Nat.le_trans Z167 kp168.1
  refine Win.st ?_ st168
  show Win p e below _ T168 (mkF mt 55 #[.val (.int (2 : Int32)), .val (.int x0), .val (.int x1), .val (.int x2), .val (.int x3)] [(.ref b160), (.ref b156), (.ref b156)])
  obtain ⟨v171, _, ⟨T171, L171, k171, n171⟩, -, X171, ⟨Lc171, hQ171, l171, y171, z171⟩, st171⟩ := X168.specialBack hx (y := (⟨"java/lang/String", "<init>", "([C)V"⟩ : MethodName)) rfl hown (mvT hZ (hw _ (List.mem_of_getElem? (i := 12) rfl))) (mvT hZ (hw _ (List.mem_of_getElem? (i := 13) rfl))) (mvT hZ (hw _ (List.mem_of_getElem? (i := 14) rfl))) (by decide) (backOf (W := 1) (rm_si3_2 l Z a0 hw [] b156 b160 cs k160 x0 x1 h168 n0 Z170 f169_73 f169_74 f169_75 g157 S0 hcs f169_72 V168 (Ne.symm ne161) hp0 hp1) hZ (hw _ (List.mem_of_getElem? (i := 14) rfl)) (hw _ (List.mem_of_getElem? (i := 10) rfl)) (by decide) (by decide)) (g := (mkF mt 55 #[.val (.int (2 : Int32)), .val (.int x0), .val (.int x1), .val (.int x2), .val (.int x3)] [(.ref b160), (.ref b156), (.ref b156)])) rfl (by rw [hml]; rfl) (Steps.refl _) (a := b156) (argsL := [(.ref b160)]) (rest := [(.ref b156)]) (lenOf pd_2 rfl) rfl (by show 2 * 0 + _ ≤ _; exact Nat.le_of_eq rfl) (hb hby d_method_4_55) (fun _ _ => ⟨rfl, e168, (by decide : 2 + 1 ≤ _), (by decide : 6 + 2 ≤ _)⟩)
  dsimp only [Pt.U, Pt.locs, Pt.cells, Pt.slots] at X171 l171 y171 z171 st171 hQ171
  subst y171 z171
  replace X171 : Stand p l e _ s mt args below meth cd T171 L171 3 8 := X171
  obtain ⟨h171, e171⟩ : ∃ z, T171.heap = z := ⟨_, rfl⟩
  rw [e171] at hQ171
  obtain ⟨rfl, Nq171, K171, fc171, tt, kt, gt171, zt171, fv171, V171⟩ := hQ171
  have N171 : Fr n0 L171 := by rw [l171]; exact Fr.app N168 Nq171
  have f172_87 := f169_72.keep K171 (allS g157 all0)
  have f172_88 := f169_73.keep K171
  have f172_89 := V168.keep K171 (ninS (Ne.symm ne161) nin0)
  have Z173 : n0 ≤ h171.size := Nat.le_trans Z170 K171.1
  refine Win.tr ?_ st171
  show Win p e below _ T171 (mkF mt 58 #[.val (.int (2 : Int32)), .val (.int x0), .val (.int x1), .val (.int x2), .val (.int x3)] [(.ref b156)])
  exact Win.ret X171 hx hlk e171 hrt rfl (Or.inr (Or.inr (Or.inr (Or.inr ⟨rfl, rfl, rfl⟩)))) (hb hby d_method_4_58) (by decide) (by decide) ⟨_, rfl, N171, Z173, f172_87, tt, kt, f172_88, fv171, fc171, V171⟩
theorem ef_ioc_2 (mt : MethodId) (b : Addr) : entryFrame mt #[(.ref b), (.int (124 : Int32)), (.int (0 : Int32)), (.int (2 : Int32))] 6 = mkF mt 0 #[.val (.ref b), .val (.int (124 : Int32)), .val (.int (0 : Int32)), .val (.int (2 : Int32)), .unset, .unset] [] := by first | (simp [entryFrame, mkF, argsToLocals, Value.category]; done) | rfl
def Q_ioc_2 (Z : State) (b : Addr) (kb : ClassId) (x0 : Int32) (x1 : Int32) (h0 : Heap) (n0 : Nat) (v : Option Value) (h : Heap) (L : List Loc) : Prop := ∃ r : Int32, v = some (.int r) ∧ Fr n0 L ∧ h = h0 ∧ (r < 0 ↔ (¬ (x0 = (124 : Int32)) ∧ ¬ (x1 = (124 : Int32))))
set_option maxRecDepth 65536 in
set_option maxHeartbeats 40000000 in
theorem rm_ioc_2 (l : Launch) (Z : State) (a0 : Array Value) (hw : ∀ d ∈ tables_1, d.before a0 Z = true) (ws : List Jvm.Cond) (b : Addr) (kb : ClassId) (x0 : Int32) (x1 : Int32) (h0 : Heap) (n0 : Nat) (Z0 : n0 ≤ h0.size) (VB : Arv Z h0 b kb .byte (2 : Int32) [(.int (x0.toInt8.toInt32)), (.int (x1.toInt8.toInt32))] (.int (0 : Int32))) (hp0 : own_B x0) (hp1 : own_B x1) :
    MetFree l (⟨"java/lang/StringLatin1", "indexOfChar", "([BIII)I"⟩ : MethodName) (head1 (Jvm.Cond.code (⟨"java/lang/StringLatin1", "indexOfChar", "([BIII)I"⟩ : MethodName) jdk_43_method_23_code 6 (some .int) :: ws) ({ frames := 0, cells := 0, slots := 0, locals := 0 } : Room)) (fun aa UU => aa = #[(.ref b), (.int (124 : Int32)), (.int (0 : Int32)), (.int (2 : Int32))] ∧ Z.Warmed39 UU.vm ∧ UU.heap = h0) (fun _ _ _ _ _ => True) (fun _ UU oo UU' => ∃ vv LL, oo = .returned vv ∧ Q_ioc_2 Z b kb x0 x1 h0 n0 vv UU'.heap LL ∧ FrameEnd UU oo UU' LL ({ frames := 0, cells := 0, slots := 0, locals := 0 } : Room).cells ({ frames := 0, cells := 0, slots := 0, locals := 0 } : Room).slots) := by
  refine MetFree.of_bodySF (plainFor_of_name pn_0) hisR ?_
  intro p e s mt args below meth cd s₁ Bd hml0 hP hK
  obtain ⟨hA, hZ, hh⟩ := hP
  have hx := Bd.exec
  have hby := Bd.bytes
  have hml : cd.maxLocals = 6 := hml0
  have hown : s.vm.findClass "java/lang/StringLatin1" = some mt.cls := findClass_of_methodNamed Bd.named
  have hnm := (name_of_methodNamed Bd.named Bd.method).1
  have hlk : meth.locks = false := BodyLoose.notSynchronized Bd
  have hrt := Bd.returns
  have X0 : Stand p l e ({ frames := 0, cells := 0, slots := 0, locals := 0 } : Room) s mt args below meth cd s₁ [] 0 0 := Stand.of_body Bd
  have e0 : s₁.heap = h0 := by rw [← hh, Bd.state]; rfl
  have N0 := Fr.nil n0
  show Win p e below (Ends s (Q_ioc_2 Z b kb x0 x1 h0 n0) ({ frames := 0, cells := 0, slots := 0, locals := 0 } : Room).cells ({ frames := 0, cells := 0, slots := 0, locals := 0 } : Room).slots) s₁ (entryFrame mt args 6)
  rw [hA, ef_ioc_2]
  refine Win.st ?_ (fun tq kq => XS.iloadN X0.here hx rfl (hb hby d_jdk_43_method_23_0) rfl kq)
  show Win p e below _ s₁ (mkF mt 1 #[.val (.ref b), .val (.int (124 : Int32)), .val (.int (0 : Int32)), .val (.int (2 : Int32)), .unset, .unset] [(.int (124 : Int32))])
  refine Win.st ?_ (fun tq kq => XS.i2b X0.here hx rfl (hb hby d_jdk_43_method_23_1) rfl kq)
  show Win p e below _ s₁ (mkF mt 2 #[.val (.ref b), .val (.int (124 : Int32)), .val (.int (0 : Int32)), .val (.int (2 : Int32)), .unset, .unset] [(.int ((124 : Int32).toInt8.toInt32))])
  rw [show ((124 : Int32).toInt8.toInt32) = (124 : Int32) from by decide]
  show Win p e below _ s₁ (mkF mt 2 #[.val (.ref b), .val (.int (124 : Int32)), .val (.int (0 : Int32)), .val (.int (2 : Int32)), .unset, .unset] [(.int (124 : Int32))])
  refine Win.st ?_ (fun tq kq => XS.istore X0.here hx rfl (hb hby d_jdk_43_method_23_2) rfl (l' := #[.val (.ref b), .val (.int (124 : Int32)), .val (.int (0 : Int32)), .val (.int (2 : Int32)), .val (.int (124 : Int32)), .unset]) rfl kq)
  show Win p e below _ s₁ (mkF mt 4 #[.val (.ref b), .val (.int (124 : Int32)), .val (.int (0 : Int32)), .val (.int (2 : Int32)), .val (.int (124 : Int32)), .unset] [])
  refine Win.st ?_ (fun tq kq => XS.iloadN X0.here hx rfl (hb hby d_jdk_43_method_23_4) rfl kq)
  show Win p e below _ s₁ (mkF mt 5 #[.val (.ref b), .val (.int (124 : Int32)), .val (.int (0 : Int32)), .val (.int (2 : Int32)), .val (.int (124 : Int32)), .unset] [(.int (0 : Int32))])
  refine Win.st ?_ (fun tq kq => XS.istore X0.here hx rfl (hb hby d_jdk_43_method_23_5) rfl (l' := #[.val (.ref b), .val (.int (124 : Int32)), .val (.int (0 : Int32)), .val (.int (2 : Int32)), .val (.int (124 : Int32)), .val (.int (0 : Int32))]) rfl kq)
  show Win p e below _ s₁ (mkF mt 7 #[.val (.ref b), .val (.int (124 : Int32)), .val (.int (0 : Int32)), .val (.int (2 : Int32)), .val (.int (124 : Int32)), .val (.int (0 : Int32))] [])
  refine Win.st ?_ (fun tq kq => XS.iload X0.here hx rfl (hb hby d_jdk_43_method_23_7) rfl kq)
  show Win p e below _ s₁ (mkF mt 9 #[.val (.ref b), .val (.int (124 : Int32)), .val (.int (0 : Int32)), .val (.int (2 : Int32)), .val (.int (124 : Int32)), .val (.int (0 : Int32))] [(.int (0 : Int32))])
  refine Win.st ?_ (fun tq kq => XS.iloadN X0.here hx rfl (hb hby d_jdk_43_method_23_9) rfl kq)
  show Win p e below _ s₁ (mkF mt 10 #[.val (.ref b), .val (.int (124 : Int32)), .val (.int (0 : Int32)), .val (.int (2 : Int32)), .val (.int (124 : Int32)), .val (.int (0 : Int32))] [(.int (2 : Int32)), (.int (0 : Int32))])
  refine Win.st ?_ (fun tq kq => XS.icmpNo X0.here hx rfl (hb hby d_jdk_43_method_23_10) rfl (tlt (by decide : (0 : Int32) < (2 : Int32))).2.1 kq)
  show Win p e below _ s₁ (mkF mt 13 #[.val (.ref b), .val (.int (124 : Int32)), .val (.int (0 : Int32)), .val (.int (2 : Int32)), .val (.int (124 : Int32)), .val (.int (0 : Int32))] [])
  refine Win.st ?_ (fun tq kq => XS.aloadN X0.here hx rfl (hb hby d_jdk_43_method_23_13) rfl rfl kq)
  show Win p e below _ s₁ (mkF mt 14 #[.val (.ref b), .val (.int (124 : Int32)), .val (.int (0 : Int32)), .val (.int (2 : Int32)), .val (.int (124 : Int32)), .val (.int (0 : Int32))] [(.ref b)])
  refine Win.st ?_ (fun tq kq => XS.iload X0.here hx rfl (hb hby d_jdk_43_method_23_14) rfl kq)
  show Win p e below _ s₁ (mkF mt 16 #[.val (.ref b), .val (.int (124 : Int32)), .val (.int (0 : Int32)), .val (.int (2 : Int32)), .val (.int (124 : Int32)), .val (.int (0 : Int32))] [(.int (0 : Int32)), (.ref b)])
  refine Win.st ?_ (own_bald (g := (mkF mt 16 #[.val (.ref b), .val (.int (124 : Int32)), .val (.int (0 : Int32)), .val (.int (2 : Int32)), .val (.int (124 : Int32)), .val (.int (0 : Int32))] [(.int (0 : Int32)), (.ref b)])) X0 hx hZ e0 VB (j := (0 : Int32)) (v := (.int (x0.toInt8.toInt32))) (by decide) (by decide) rfl rfl rfl (hb hby d_jdk_43_method_23_16))
  show Win p e below _ s₁ (mkF mt 17 #[.val (.ref b), .val (.int (124 : Int32)), .val (.int (0 : Int32)), .val (.int (2 : Int32)), .val (.int (124 : Int32)), .val (.int (0 : Int32))] [(.int (x0.toInt8.toInt32))])
  refine Win.st ?_ (fun tq kq => XS.iload X0.here hx rfl (hb hby d_jdk_43_method_23_17) rfl kq)
  show Win p e below _ s₁ (mkF mt 19 #[.val (.ref b), .val (.int (124 : Int32)), .val (.int (0 : Int32)), .val (.int (2 : Int32)), .val (.int (124 : Int32)), .val (.int (0 : Int32))] [(.int (124 : Int32)), (.int (x0.toInt8.toInt32))])
  by_cases hc19 : (x0.toInt8.toInt32) = (124 : Int32)
  · refine Win.st ?_ (fun tq kq => XS.icmpNo X0.here hx rfl (hb hby d_jdk_43_method_23_19) rfl (teq hc19).2 kq)
    show Win p e below _ s₁ (mkF mt 22 #[.val (.ref b), .val (.int (124 : Int32)), .val (.int (0 : Int32)), .val (.int (2 : Int32)), .val (.int (124 : Int32)), .val (.int (0 : Int32))] [])
    refine Win.st ?_ (fun tq kq => XS.iload X0.here hx rfl (hb hby d_jdk_43_method_23_22) rfl kq)
    show Win p e below _ s₁ (mkF mt 24 #[.val (.ref b), .val (.int (124 : Int32)), .val (.int (0 : Int32)), .val (.int (2 : Int32)), .val (.int (124 : Int32)), .val (.int (0 : Int32))] [(.int (0 : Int32))])
    exact Win.ret X0 hx hlk e0 hrt rfl (Or.inl ⟨rfl, Or.inl rfl, _, rfl⟩) (hb hby d_jdk_43_method_23_24) (by decide) (by decide) ⟨_, rfl, N0, rfl, ⟨fun q => absurd q (by decide), fun q => absurd (own_b124 hp0 hc19) (q.1)⟩⟩
  · refine Win.st ?_ (fun tq kq => XS.icmpYes X0.here hx rfl (pc0 := 19) (pc' := 25) rfl (hb hby d_jdk_43_method_23_19) rfl (feq hc19).2 (by decide) (by decide) kq)
    show Win p e below _ s₁ (mkF mt 25 #[.val (.ref b), .val (.int (124 : Int32)), .val (.int (0 : Int32)), .val (.int (2 : Int32)), .val (.int (124 : Int32)), .val (.int (0 : Int32))] [])
    refine Win.st ?_ (fun tq kq => XS.iinc X0.here hx rfl (hb hby d_jdk_43_method_23_25) rfl (l' := #[.val (.ref b), .val (.int (124 : Int32)), .val (.int (0 : Int32)), .val (.int (2 : Int32)), .val (.int (124 : Int32)), .val (.int (1 : Int32))]) rfl kq)
    show Win p e below _ s₁ (mkF mt 28 #[.val (.ref b), .val (.int (124 : Int32)), .val (.int (0 : Int32)), .val (.int (2 : Int32)), .val (.int (124 : Int32)), .val (.int (1 : Int32))] [])
    refine Win.st ?_ (fun tq kq => XS.goto X0.here hx rfl (pc0 := 28) (pc' := 7) rfl (hb hby d_jdk_43_method_23_28) (by decide) (by decide) kq)
    show Win p e below _ s₁ (mkF mt 7 #[.val (.ref b), .val (.int (124 : Int32)), .val (.int (0 : Int32)), .val (.int (2 : Int32)), .val (.int (124 : Int32)), .val (.int (1 : Int32))] [])
    refine Win.st ?_ (fun tq kq => XS.iload X0.here hx rfl (hb hby d_jdk_43_method_23_7) rfl kq)
    show Win p e below _ s₁ (mkF mt 9 #[.val (.ref b), .val (.int (124 : Int32)), .val (.int (0 : Int32)), .val (.int (2 : Int32)), .val (.int (124 : Int32)), .val (.int (1 : Int32))] [(.int (1 : Int32))])
    refine Win.st ?_ (fun tq kq => XS.iloadN X0.here hx rfl (hb hby d_jdk_43_method_23_9) rfl kq)
    show Win p e below _ s₁ (mkF mt 10 #[.val (.ref b), .val (.int (124 : Int32)), .val (.int (0 : Int32)), .val (.int (2 : Int32)), .val (.int (124 : Int32)), .val (.int (1 : Int32))] [(.int (2 : Int32)), (.int (1 : Int32))])
    refine Win.st ?_ (fun tq kq => XS.icmpNo X0.here hx rfl (hb hby d_jdk_43_method_23_10) rfl (tlt (by decide : (1 : Int32) < (2 : Int32))).2.1 kq)
    show Win p e below _ s₁ (mkF mt 13 #[.val (.ref b), .val (.int (124 : Int32)), .val (.int (0 : Int32)), .val (.int (2 : Int32)), .val (.int (124 : Int32)), .val (.int (1 : Int32))] [])
    refine Win.st ?_ (fun tq kq => XS.aloadN X0.here hx rfl (hb hby d_jdk_43_method_23_13) rfl rfl kq)
    show Win p e below _ s₁ (mkF mt 14 #[.val (.ref b), .val (.int (124 : Int32)), .val (.int (0 : Int32)), .val (.int (2 : Int32)), .val (.int (124 : Int32)), .val (.int (1 : Int32))] [(.ref b)])
    refine Win.st ?_ (fun tq kq => XS.iload X0.here hx rfl (hb hby d_jdk_43_method_23_14) rfl kq)
    show Win p e below _ s₁ (mkF mt 16 #[.val (.ref b), .val (.int (124 : Int32)), .val (.int (0 : Int32)), .val (.int (2 : Int32)), .val (.int (124 : Int32)), .val (.int (1 : Int32))] [(.int (1 : Int32)), (.ref b)])
    refine Win.st ?_ (own_bald (g := (mkF mt 16 #[.val (.ref b), .val (.int (124 : Int32)), .val (.int (0 : Int32)), .val (.int (2 : Int32)), .val (.int (124 : Int32)), .val (.int (1 : Int32))] [(.int (1 : Int32)), (.ref b)])) X0 hx hZ e0 VB (j := (1 : Int32)) (v := (.int (x1.toInt8.toInt32))) (by decide) (by decide) rfl rfl rfl (hb hby d_jdk_43_method_23_16))
    show Win p e below _ s₁ (mkF mt 17 #[.val (.ref b), .val (.int (124 : Int32)), .val (.int (0 : Int32)), .val (.int (2 : Int32)), .val (.int (124 : Int32)), .val (.int (1 : Int32))] [(.int (x1.toInt8.toInt32))])
    refine Win.st ?_ (fun tq kq => XS.iload X0.here hx rfl (hb hby d_jdk_43_method_23_17) rfl kq)
    show Win p e below _ s₁ (mkF mt 19 #[.val (.ref b), .val (.int (124 : Int32)), .val (.int (0 : Int32)), .val (.int (2 : Int32)), .val (.int (124 : Int32)), .val (.int (1 : Int32))] [(.int (124 : Int32)), (.int (x1.toInt8.toInt32))])
    by_cases hc19_174 : (x1.toInt8.toInt32) = (124 : Int32)
    · refine Win.st ?_ (fun tq kq => XS.icmpNo X0.here hx rfl (hb hby d_jdk_43_method_23_19) rfl (teq hc19_174).2 kq)
      show Win p e below _ s₁ (mkF mt 22 #[.val (.ref b), .val (.int (124 : Int32)), .val (.int (0 : Int32)), .val (.int (2 : Int32)), .val (.int (124 : Int32)), .val (.int (1 : Int32))] [])
      refine Win.st ?_ (fun tq kq => XS.iload X0.here hx rfl (hb hby d_jdk_43_method_23_22) rfl kq)
      show Win p e below _ s₁ (mkF mt 24 #[.val (.ref b), .val (.int (124 : Int32)), .val (.int (0 : Int32)), .val (.int (2 : Int32)), .val (.int (124 : Int32)), .val (.int (1 : Int32))] [(.int (1 : Int32))])
      exact Win.ret X0 hx hlk e0 hrt rfl (Or.inl ⟨rfl, Or.inl rfl, _, rfl⟩) (hb hby d_jdk_43_method_23_24) (by decide) (by decide) ⟨_, rfl, N0, rfl, ⟨fun q => absurd q (by decide), fun q => absurd (own_b124 hp1 hc19_174) (q.2)⟩⟩
    · refine Win.st ?_ (fun tq kq => XS.icmpYes X0.here hx rfl (pc0 := 19) (pc' := 25) rfl (hb hby d_jdk_43_method_23_19) rfl (feq hc19_174).2 (by decide) (by decide) kq)
      show Win p e below _ s₁ (mkF mt 25 #[.val (.ref b), .val (.int (124 : Int32)), .val (.int (0 : Int32)), .val (.int (2 : Int32)), .val (.int (124 : Int32)), .val (.int (1 : Int32))] [])
      refine Win.st ?_ (fun tq kq => XS.iinc X0.here hx rfl (hb hby d_jdk_43_method_23_25) rfl (l' := #[.val (.ref b), .val (.int (124 : Int32)), .val (.int (0 : Int32)), .val (.int (2 : Int32)), .val (.int (124 : Int32)), .val (.int (2 : Int32))]) rfl kq)
      show Win p e below _ s₁ (mkF mt 28 #[.val (.ref b), .val (.int (124 : Int32)), .val (.int (0 : Int32)), .val (.int (2 : Int32)), .val (.int (124 : Int32)), .val (.int (2 : Int32))] [])
      refine Win.st ?_ (fun tq kq => XS.goto X0.here hx rfl (pc0 := 28) (pc' := 7) rfl (hb hby d_jdk_43_method_23_28) (by decide) (by decide) kq)
      show Win p e below _ s₁ (mkF mt 7 #[.val (.ref b), .val (.int (124 : Int32)), .val (.int (0 : Int32)), .val (.int (2 : Int32)), .val (.int (124 : Int32)), .val (.int (2 : Int32))] [])
      refine Win.st ?_ (fun tq kq => XS.iload X0.here hx rfl (hb hby d_jdk_43_method_23_7) rfl kq)
      show Win p e below _ s₁ (mkF mt 9 #[.val (.ref b), .val (.int (124 : Int32)), .val (.int (0 : Int32)), .val (.int (2 : Int32)), .val (.int (124 : Int32)), .val (.int (2 : Int32))] [(.int (2 : Int32))])
      refine Win.st ?_ (fun tq kq => XS.iloadN X0.here hx rfl (hb hby d_jdk_43_method_23_9) rfl kq)
      show Win p e below _ s₁ (mkF mt 10 #[.val (.ref b), .val (.int (124 : Int32)), .val (.int (0 : Int32)), .val (.int (2 : Int32)), .val (.int (124 : Int32)), .val (.int (2 : Int32))] [(.int (2 : Int32)), (.int (2 : Int32))])
      refine Win.st ?_ (fun tq kq => XS.icmpYes X0.here hx rfl (pc0 := 10) (pc' := 31) rfl (hb hby d_jdk_43_method_23_10) rfl (flt (Int32.lt_irrefl)).2.1 (by decide) (by decide) kq)
      show Win p e below _ s₁ (mkF mt 31 #[.val (.ref b), .val (.int (124 : Int32)), .val (.int (0 : Int32)), .val (.int (2 : Int32)), .val (.int (124 : Int32)), .val (.int (2 : Int32))] [])
      refine Win.st ?_ (fun tq kq => XS.iconst X0.here hx rfl (hb hby d_jdk_43_method_23_31) kq)
      show Win p e below _ s₁ (mkF mt 32 #[.val (.ref b), .val (.int (124 : Int32)), .val (.int (0 : Int32)), .val (.int (2 : Int32)), .val (.int (124 : Int32)), .val (.int (2 : Int32))] [(.int (-1 : Int32))])
      exact Win.ret X0 hx hlk e0 hrt rfl (Or.inl ⟨rfl, Or.inl rfl, _, rfl⟩) (hb hby d_jdk_43_method_23_32) (by decide) (by decide) ⟨_, rfl, N0, rfl, ⟨fun _ => ⟨fun q => hc19 (by rw [q]; decide), fun q => hc19_174 (by rw [q]; decide)⟩, fun _ => by decide⟩⟩
theorem ef_lio_2 (mt : MethodId) (b : Addr) : entryFrame mt #[(.ref b), (.int (124 : Int32)), (.int (0 : Int32)), (.int (2 : Int32))] 4 = mkF mt 0 #[.val (.ref b), .val (.int (124 : Int32)), .val (.int (0 : Int32)), .val (.int (2 : Int32))] [] := by first | (simp [entryFrame, mkF, argsToLocals, Value.category]; done) | rfl
def Q_lio_2 (Z : State) (b : Addr) (kb : ClassId) (x0 : Int32) (x1 : Int32) (h0 : Heap) (n0 : Nat) (v : Option Value) (h : Heap) (L : List Loc) : Prop := ∃ r : Int32, v = some (.int r) ∧ Fr n0 L ∧ h = h0 ∧ (r < 0 ↔ (¬ (x0 = (124 : Int32)) ∧ ¬ (x1 = (124 : Int32))))
set_option maxRecDepth 65536 in
set_option maxHeartbeats 40000000 in
theorem rm_lio_2 (l : Launch) (Z : State) (a0 : Array Value) (hw : ∀ d ∈ tables_1, d.before a0 Z = true) (ws : List Jvm.Cond) (b : Addr) (kb : ClassId) (x0 : Int32) (x1 : Int32) (h0 : Heap) (n0 : Nat) (Z0 : n0 ≤ h0.size) (VB : Arv Z h0 b kb .byte (2 : Int32) [(.int (x0.toInt8.toInt32)), (.int (x1.toInt8.toInt32))] (.int (0 : Int32))) (hp0 : own_B x0) (hp1 : own_B x1) :
    MetFree l (⟨"java/lang/StringLatin1", "indexOf", "([BIII)I"⟩ : MethodName) (head1 (Jvm.Cond.code (⟨"java/lang/StringLatin1", "indexOf", "([BIII)I"⟩ : MethodName) jdk_43_method_22_code 4 (some .int) :: ws) ({ frames := 1, cells := 0, slots := 0, locals := 17 } : Room)) (fun aa UU => aa = #[(.ref b), (.int (124 : Int32)), (.int (0 : Int32)), (.int (2 : Int32))] ∧ Z.Warmed39 UU.vm ∧ UU.heap = h0) (fun _ _ _ _ _ => True) (fun _ UU oo UU' => ∃ vv LL, oo = .returned vv ∧ Q_lio_2 Z b kb x0 x1 h0 n0 vv UU'.heap LL ∧ FrameEnd UU oo UU' LL ({ frames := 1, cells := 0, slots := 0, locals := 17 } : Room).cells ({ frames := 1, cells := 0, slots := 0, locals := 17 } : Room).slots) := by
  refine MetFree.of_bodySF (plainFor_of_name pn_0) hisR ?_
  intro p e s mt args below meth cd s₁ Bd hml0 hP hK
  obtain ⟨hA, hZ, hh⟩ := hP
  have hx := Bd.exec
  have hby := Bd.bytes
  have hml : cd.maxLocals = 4 := hml0
  have hown : s.vm.findClass "java/lang/StringLatin1" = some mt.cls := findClass_of_methodNamed Bd.named
  have hnm := (name_of_methodNamed Bd.named Bd.method).1
  have hlk : meth.locks = false := BodyLoose.notSynchronized Bd
  have hrt := Bd.returns
  have X0 : Stand p l e ({ frames := 1, cells := 0, slots := 0, locals := 17 } : Room) s mt args below meth cd s₁ [] 0 0 := Stand.of_body Bd
  have e0 : s₁.heap = h0 := by rw [← hh, Bd.state]; rfl
  have N0 := Fr.nil n0
  show Win p e below (Ends s (Q_lio_2 Z b kb x0 x1 h0 n0) ({ frames := 1, cells := 0, slots := 0, locals := 17 } : Room).cells ({ frames := 1, cells := 0, slots := 0, locals := 17 } : Room).slots) s₁ (entryFrame mt args 4)
  rw [hA, ef_lio_2]
  refine Win.st ?_ (fun tq kq => XS.iloadN X0.here hx rfl (hb hby d_jdk_43_method_22_0) rfl kq)
  show Win p e below _ s₁ (mkF mt 1 #[.val (.ref b), .val (.int (124 : Int32)), .val (.int (0 : Int32)), .val (.int (2 : Int32))] [(.int (124 : Int32))])
  obtain ⟨v175, _, ⟨T175, L175, k175, n175⟩, -, X175, ⟨Lc175, hQ175, l175, y175, z175⟩, st175⟩ := Jvm.LawKit.callS X0 hx (y := (⟨"java/lang/StringLatin1", "canEncode", "(I)Z"⟩ : MethodName)) hown (mvT hZ (hw _ (List.mem_of_getElem? (i := 64) rfl))) (mvT hZ (hw _ (List.mem_of_getElem? (i := 65) rfl))) (mvT hZ (hw _ (List.mem_of_getElem? (i := 62) rfl))) (mvT hZ (hw _ (List.mem_of_getElem? (i := 66) rfl))) (by decide) (backOf (W := 0) (rm_cei l Z a0 hw [] (124 : Int32) h0 n0 Z0 (by decide) (by decide)) hZ (hw _ (List.mem_of_getElem? (i := 66) rfl)) (hw _ (List.mem_of_getElem? (i := 62) rfl)) (by decide) (by decide)) (g := (mkF mt 1 #[.val (.ref b), .val (.int (124 : Int32)), .val (.int (0 : Int32)), .val (.int (2 : Int32))] [(.int (124 : Int32))])) rfl (by rw [hml]; rfl) (argsL := [(.int (124 : Int32))]) (rest := []) (lenOf pd_3 rfl) rfl (by show 2 * 0 + _ ≤ _; exact Nat.le_of_eq rfl) (hb hby d_jdk_43_method_22_1) (fun _ _ => ⟨rfl, e0, (by decide : 0 + 0 ≤ _), (by decide : 0 + 0 ≤ _)⟩)
  dsimp only [Pt.U, Pt.locs, Pt.cells, Pt.slots] at X175 l175 y175 z175 st175 hQ175
  subst y175 z175
  replace X175 : Stand p l e _ s mt args below meth cd T175 L175 0 0 := X175
  obtain ⟨h175, e175⟩ : ∃ z, T175.heap = z := ⟨_, rfl⟩
  rw [e175] at hQ175
  obtain ⟨rfl, Nq175, eh175⟩ := hQ175
  have N175 : Fr n0 L175 := by rw [l175]; exact Fr.app N0 Nq175
  rw [eh175] at e175
  refine Win.st ?_ st175
  show Win p e below _ T175 (mkF mt 4 #[.val (.ref b), .val (.int (124 : Int32)), .val (.int (0 : Int32)), .val (.int (2 : Int32))] [(.int (1 : Int32))])
  refine Win.st ?_ (fun tq kq => XS.ifYes X175.here hx rfl (pc0 := 4) (pc' := 9) rfl (hb hby d_jdk_43_method_22_4) rfl ((if0 _ _).trans (feq (by decide : ¬ ((1 : Int32) = (0 : Int32)))).2) (by decide) (by decide) kq)
  show Win p e below _ T175 (mkF mt 9 #[.val (.ref b), .val (.int (124 : Int32)), .val (.int (0 : Int32)), .val (.int (2 : Int32))] [])
  refine Win.st ?_ (fun tq kq => XS.iloadN X175.here hx rfl (hb hby d_jdk_43_method_22_9) rfl kq)
  show Win p e below _ T175 (mkF mt 10 #[.val (.ref b), .val (.int (124 : Int32)), .val (.int (0 : Int32)), .val (.int (2 : Int32))] [(.int (0 : Int32))])
  refine Win.st ?_ (fun tq kq => XS.iconst X175.here hx rfl (hb hby d_jdk_43_method_22_10) kq)
  show Win p e below _ T175 (mkF mt 11 #[.val (.ref b), .val (.int (124 : Int32)), .val (.int (0 : Int32)), .val (.int (2 : Int32))] [(.int (0 : Int32)), (.int (0 : Int32))])
  obtain ⟨v176, _, ⟨T176, L176, k176, n176⟩, -, X176, ⟨Lc176, hQ176, l176, y176, z176⟩, st176⟩ := Jvm.LawKit.callS X175 hx (y := (⟨"java/lang/Math", "max", "(II)I"⟩ : MethodName)) hown (mvT hZ (hw _ (List.mem_of_getElem? (i := 67) rfl))) (mvT hZ (hw _ (List.mem_of_getElem? (i := 68) rfl))) (mvT hZ (hw _ (List.mem_of_getElem? (i := 69) rfl))) (mvT hZ (hw _ (List.mem_of_getElem? (i := 70) rfl))) (by decide) (backOf (W := 0) (rm_max l Z a0 hw [] (0 : Int32) (0 : Int32) h0 n0 Z0 ) hZ (hw _ (List.mem_of_getElem? (i := 70) rfl)) (hw _ (List.mem_of_getElem? (i := 69) rfl)) (by decide) (by decide)) (g := (mkF mt 11 #[.val (.ref b), .val (.int (124 : Int32)), .val (.int (0 : Int32)), .val (.int (2 : Int32))] [(.int (0 : Int32)), (.int (0 : Int32))])) rfl (by rw [hml]; rfl) (argsL := [(.int (0 : Int32)), (.int (0 : Int32))]) (rest := []) (lenOf pd_4 rfl) rfl (by show 2 * 0 + _ ≤ _; exact Nat.le_of_eq rfl) (hb hby d_jdk_43_method_22_11) (fun _ _ => ⟨rfl, e175, (by decide : 0 + 0 ≤ _), (by decide : 0 + 0 ≤ _)⟩)
  dsimp only [Pt.U, Pt.locs, Pt.cells, Pt.slots] at X176 l176 y176 z176 st176 hQ176
  subst y176 z176
  replace X176 : Stand p l e _ s mt args below meth cd T176 L176 0 0 := X176
  obtain ⟨h176, e176⟩ : ∃ z, T176.heap = z := ⟨_, rfl⟩
  rw [e176] at hQ176
  obtain ⟨rfl, Nq176, eh176⟩ := hQ176
  have N176 : Fr n0 L176 := by rw [l176]; exact Fr.app N175 Nq176
  rw [eh176] at e176
  rw [show own_max (0 : Int32) (0 : Int32) = (0 : Int32) from by decide] at st176
  refine Win.st ?_ st176
  show Win p e below _ T176 (mkF mt 14 #[.val (.ref b), .val (.int (124 : Int32)), .val (.int (0 : Int32)), .val (.int (2 : Int32))] [(.int (0 : Int32))])
  refine Win.st ?_ (fun tq kq => XS.istoreN X176.here hx rfl (hb hby d_jdk_43_method_22_14) rfl (l' := #[.val (.ref b), .val (.int (124 : Int32)), .val (.int (0 : Int32)), .val (.int (2 : Int32))]) rfl kq)
  show Win p e below _ T176 (mkF mt 15 #[.val (.ref b), .val (.int (124 : Int32)), .val (.int (0 : Int32)), .val (.int (2 : Int32))] [])
  refine Win.st ?_ (fun tq kq => XS.iloadN X176.here hx rfl (hb hby d_jdk_43_method_22_15) rfl kq)
  show Win p e below _ T176 (mkF mt 16 #[.val (.ref b), .val (.int (124 : Int32)), .val (.int (0 : Int32)), .val (.int (2 : Int32))] [(.int (2 : Int32))])
  refine Win.st ?_ (fun tq kq => XS.aloadN X176.here hx rfl (hb hby d_jdk_43_method_22_16) rfl rfl kq)
  show Win p e below _ T176 (mkF mt 17 #[.val (.ref b), .val (.int (124 : Int32)), .val (.int (0 : Int32)), .val (.int (2 : Int32))] [(.ref b), (.int (2 : Int32))])
  refine Win.st ?_ (own_alen (g := (mkF mt 17 #[.val (.ref b), .val (.int (124 : Int32)), .val (.int (0 : Int32)), .val (.int (2 : Int32))] [(.ref b), (.int (2 : Int32))])) X176 hx hZ e176 VB rfl rfl (hb hby d_jdk_43_method_22_17))
  show Win p e below _ T176 (mkF mt 18 #[.val (.ref b), .val (.int (124 : Int32)), .val (.int (0 : Int32)), .val (.int (2 : Int32))] [(.int (2 : Int32)), (.int (2 : Int32))])
  obtain ⟨v177, _, ⟨T177, L177, k177, n177⟩, -, X177, ⟨Lc177, hQ177, l177, y177, z177⟩, st177⟩ := Jvm.LawKit.callS X176 hx (y := (⟨"java/lang/Math", "min", "(II)I"⟩ : MethodName)) hown (mvT hZ (hw _ (List.mem_of_getElem? (i := 71) rfl))) (mvT hZ (hw _ (List.mem_of_getElem? (i := 72) rfl))) (mvT hZ (hw _ (List.mem_of_getElem? (i := 69) rfl))) (mvT hZ (hw _ (List.mem_of_getElem? (i := 73) rfl))) (by decide) (backOf (W := 0) (rm_min l Z a0 hw [] (2 : Int32) (2 : Int32) h0 n0 Z0 ) hZ (hw _ (List.mem_of_getElem? (i := 73) rfl)) (hw _ (List.mem_of_getElem? (i := 69) rfl)) (by decide) (by decide)) (g := (mkF mt 18 #[.val (.ref b), .val (.int (124 : Int32)), .val (.int (0 : Int32)), .val (.int (2 : Int32))] [(.int (2 : Int32)), (.int (2 : Int32))])) rfl (by rw [hml]; rfl) (argsL := [(.int (2 : Int32)), (.int (2 : Int32))]) (rest := []) (lenOf pd_4 rfl) rfl (by show 2 * 0 + _ ≤ _; exact Nat.le_of_eq rfl) (hb hby d_jdk_43_method_22_18) (fun _ _ => ⟨rfl, e176, (by decide : 0 + 0 ≤ _), (by decide : 0 + 0 ≤ _)⟩)
  dsimp only [Pt.U, Pt.locs, Pt.cells, Pt.slots] at X177 l177 y177 z177 st177 hQ177
  subst y177 z177
  replace X177 : Stand p l e _ s mt args below meth cd T177 L177 0 0 := X177
  obtain ⟨h177, e177⟩ : ∃ z, T177.heap = z := ⟨_, rfl⟩
  rw [e177] at hQ177
  obtain ⟨rfl, Nq177, eh177⟩ := hQ177
  have N177 : Fr n0 L177 := by rw [l177]; exact Fr.app N176 Nq177
  rw [eh177] at e177
  rw [show own_min (2 : Int32) (2 : Int32) = (2 : Int32) from by decide] at st177
  refine Win.st ?_ st177
  show Win p e below _ T177 (mkF mt 21 #[.val (.ref b), .val (.int (124 : Int32)), .val (.int (0 : Int32)), .val (.int (2 : Int32))] [(.int (2 : Int32))])
  refine Win.st ?_ (fun tq kq => XS.istoreN X177.here hx rfl (hb hby d_jdk_43_method_22_21) rfl (l' := #[.val (.ref b), .val (.int (124 : Int32)), .val (.int (0 : Int32)), .val (.int (2 : Int32))]) rfl kq)
  show Win p e below _ T177 (mkF mt 22 #[.val (.ref b), .val (.int (124 : Int32)), .val (.int (0 : Int32)), .val (.int (2 : Int32))] [])
  refine Win.st ?_ (fun tq kq => XS.iloadN X177.here hx rfl (hb hby d_jdk_43_method_22_22) rfl kq)
  show Win p e below _ T177 (mkF mt 23 #[.val (.ref b), .val (.int (124 : Int32)), .val (.int (0 : Int32)), .val (.int (2 : Int32))] [(.int (0 : Int32))])
  refine Win.st ?_ (fun tq kq => XS.iloadN X177.here hx rfl (hb hby d_jdk_43_method_22_23) rfl kq)
  show Win p e below _ T177 (mkF mt 24 #[.val (.ref b), .val (.int (124 : Int32)), .val (.int (0 : Int32)), .val (.int (2 : Int32))] [(.int (2 : Int32)), (.int (0 : Int32))])
  refine Win.st ?_ (fun tq kq => XS.icmpYes X177.here hx rfl (pc0 := 24) (pc' := 29) rfl (hb hby d_jdk_43_method_22_24) rfl (tlt (by decide : (0 : Int32) < (2 : Int32))).1 (by decide) (by decide) kq)
  show Win p e below _ T177 (mkF mt 29 #[.val (.ref b), .val (.int (124 : Int32)), .val (.int (0 : Int32)), .val (.int (2 : Int32))] [])
  refine Win.st ?_ (fun tq kq => XS.aloadN X177.here hx rfl (hb hby d_jdk_43_method_22_29) rfl rfl kq)
  show Win p e below _ T177 (mkF mt 30 #[.val (.ref b), .val (.int (124 : Int32)), .val (.int (0 : Int32)), .val (.int (2 : Int32))] [(.ref b)])
  refine Win.st ?_ (fun tq kq => XS.iloadN X177.here hx rfl (hb hby d_jdk_43_method_22_30) rfl kq)
  show Win p e below _ T177 (mkF mt 31 #[.val (.ref b), .val (.int (124 : Int32)), .val (.int (0 : Int32)), .val (.int (2 : Int32))] [(.int (124 : Int32)), (.ref b)])
  refine Win.st ?_ (fun tq kq => XS.iloadN X177.here hx rfl (hb hby d_jdk_43_method_22_31) rfl kq)
  show Win p e below _ T177 (mkF mt 32 #[.val (.ref b), .val (.int (124 : Int32)), .val (.int (0 : Int32)), .val (.int (2 : Int32))] [(.int (0 : Int32)), (.int (124 : Int32)), (.ref b)])
  refine Win.st ?_ (fun tq kq => XS.iloadN X177.here hx rfl (hb hby d_jdk_43_method_22_32) rfl kq)
  show Win p e below _ T177 (mkF mt 33 #[.val (.ref b), .val (.int (124 : Int32)), .val (.int (0 : Int32)), .val (.int (2 : Int32))] [(.int (2 : Int32)), (.int (0 : Int32)), (.int (124 : Int32)), (.ref b)])
  obtain ⟨v178, _, ⟨T178, L178, k178, n178⟩, -, X178, ⟨Lc178, hQ178, l178, y178, z178⟩, st178⟩ := Jvm.LawKit.callS X177 hx (y := (⟨"java/lang/StringLatin1", "indexOfChar", "([BIII)I"⟩ : MethodName)) hown (mvT hZ (hw _ (List.mem_of_getElem? (i := 84) rfl))) (mvT hZ (hw _ (List.mem_of_getElem? (i := 85) rfl))) (mvT hZ (hw _ (List.mem_of_getElem? (i := 62) rfl))) (mvT hZ (hw _ (List.mem_of_getElem? (i := 86) rfl))) (by decide) (backOf (W := 0) (rm_ioc_2 l Z a0 hw [] b kb x0 x1 h0 n0 Z0 VB hp0 hp1) hZ (hw _ (List.mem_of_getElem? (i := 86) rfl)) (hw _ (List.mem_of_getElem? (i := 62) rfl)) (by decide) (by decide)) (g := (mkF mt 33 #[.val (.ref b), .val (.int (124 : Int32)), .val (.int (0 : Int32)), .val (.int (2 : Int32))] [(.int (2 : Int32)), (.int (0 : Int32)), (.int (124 : Int32)), (.ref b)])) rfl (by rw [hml]; rfl) (argsL := [(.ref b), (.int (124 : Int32)), (.int (0 : Int32)), (.int (2 : Int32))]) (rest := []) (lenOf pd_7 rfl) rfl (by show 2 * 0 + _ ≤ _; exact Nat.le_of_eq rfl) (hb hby d_jdk_43_method_22_33) (fun _ _ => ⟨rfl, e177, (by decide : 0 + 0 ≤ _), (by decide : 0 + 0 ≤ _)⟩)
  dsimp only [Pt.U, Pt.locs, Pt.cells, Pt.slots] at X178 l178 y178 z178 st178 hQ178
  subst y178 z178
  replace X178 : Stand p l e _ s mt args below meth cd T178 L178 0 0 := X178
  obtain ⟨h178, e178⟩ : ∃ z, T178.heap = z := ⟨_, rfl⟩
  rw [e178] at hQ178
  obtain ⟨rr, rfl, Nq178, eh178, hr⟩ := hQ178
  have N178 : Fr n0 L178 := by rw [l178]; exact Fr.app N177 Nq178
  rw [eh178] at e178
  refine Win.st ?_ st178
  show Win p e below _ T178 (mkF mt 36 #[.val (.ref b), .val (.int (124 : Int32)), .val (.int (0 : Int32)), .val (.int (2 : Int32))] [(.int rr)])
  exact Win.ret X178 hx hlk e178 hrt rfl (Or.inl ⟨rfl, Or.inl rfl, _, rfl⟩) (hb hby d_jdk_43_method_22_36) (by decide) (by decide) ⟨_, rfl, N178, rfl, hr⟩
theorem ef_io2_2 (mt : MethodId) (a : Addr) : entryFrame mt #[(.ref a), (.int (124 : Int32)), (.int (0 : Int32))] 3 = mkF mt 0 #[.val (.ref a), .val (.int (124 : Int32)), .val (.int (0 : Int32))] [] := by first | (simp [entryFrame, mkF, argsToLocals, Value.category]; done) | rfl
def Q_io2_2 (Z : State) (a : Addr) (b : Addr) (kb : ClassId) (cs : Int32) (x0 : Int32) (x1 : Int32) (h0 : Heap) (n0 : Nat) (v : Option Value) (h : Heap) (L : List Loc) : Prop := ∃ r : Int32, v = some (.int r) ∧ Fr n0 L ∧ h = h0 ∧ (r < 0 ↔ (¬ (x0 = (124 : Int32)) ∧ ¬ (x1 = (124 : Int32))))
set_option maxRecDepth 65536 in
set_option maxHeartbeats 40000000 in
theorem rm_io2_2 (l : Launch) (Z : State) (a0 : Array Value) (hw : ∀ d ∈ tables_1, d.before a0 Z = true) (ws : List Jvm.Cond) (a : Addr) (b : Addr) (kb : ClassId) (cs : Int32) (x0 : Int32) (x1 : Int32) (h0 : Heap) (n0 : Nat) (Z0 : n0 ≤ h0.size) (E : Exa Z h0 a "java/lang/String") (Fv : Fld Z h0 a "java/lang/String" "value" "[B" (.ref b)) (Fc : Fld Z h0 a "java/lang/String" "coder" "B" (.int (0 : Int32))) (VB : Arv Z h0 b kb .byte (2 : Int32) [(.int (x0.toInt8.toInt32)), (.int (x1.toInt8.toInt32))] (.int (0 : Int32))) (S0 : Sta Z Z.heap "java/lang/String" "COMPACT_STRINGS" "Z" (.int cs)) (hcs : ¬ cs = (0 : Int32)) (O : Old Z n0 h0) (hp0 : own_B x0) (hp1 : own_B x1) :
    MetFree l (⟨"java/lang/String", "indexOf", "(II)I"⟩ : MethodName) (head1 (Jvm.Cond.code (⟨"java/lang/String", "indexOf", "(II)I"⟩ : MethodName) jdk_42_method_80_code 3 (some .int) :: ws) ({ frames := 2, cells := 0, slots := 0, locals := 32 } : Room)) (fun aa UU => aa = #[(.ref a), (.int (124 : Int32)), (.int (0 : Int32))] ∧ Z.Warmed39 UU.vm ∧ UU.heap = h0) (fun _ _ _ _ _ => True) (fun _ UU oo UU' => ∃ vv LL, oo = .returned vv ∧ Q_io2_2 Z a b kb cs x0 x1 h0 n0 vv UU'.heap LL ∧ FrameEnd UU oo UU' LL ({ frames := 2, cells := 0, slots := 0, locals := 32 } : Room).cells ({ frames := 2, cells := 0, slots := 0, locals := 32 } : Room).slots) := by
  refine MetFree.of_bodySF (plainFor_of_name pn_1) hisR ?_
  intro p e s mt args below meth cd s₁ Bd hml0 hP hK
  obtain ⟨hA, hZ, hh⟩ := hP
  have hx := Bd.exec
  have hby := Bd.bytes
  have hml : cd.maxLocals = 3 := hml0
  have hown : s.vm.findClass "java/lang/String" = some mt.cls := findClass_of_methodNamed Bd.named
  have hnm := (name_of_methodNamed Bd.named Bd.method).1
  have hlk : meth.locks = false := BodyLoose.notSynchronized Bd
  have hrt := Bd.returns
  have X0 : Stand p l e ({ frames := 2, cells := 0, slots := 0, locals := 32 } : Room) s mt args below meth cd s₁ [] 0 0 := Stand.of_body Bd
  have e0 : s₁.heap = h0 := by rw [← hh, Bd.state]; rfl
  have N0 := Fr.nil n0
  show Win p e below (Ends s (Q_io2_2 Z a b kb cs x0 x1 h0 n0) ({ frames := 2, cells := 0, slots := 0, locals := 32 } : Room).cells ({ frames := 2, cells := 0, slots := 0, locals := 32 } : Room).slots) s₁ (entryFrame mt args 3)
  rw [hA, ef_io2_2]
  refine Win.st ?_ (fun tq kq => XS.aloadN X0.here hx rfl (hb hby d_jdk_42_method_80_0) rfl rfl kq)
  show Win p e below _ s₁ (mkF mt 1 #[.val (.ref a), .val (.int (124 : Int32)), .val (.int (0 : Int32))] [(.ref a)])
  obtain ⟨cq179, kq179, q179a, q179b, q179c⟩ := isOf hZ e0 E
  obtain ⟨v179, _, ⟨T179, L179, k179, n179⟩, -, X179, ⟨Lc179, hQ179, l179, y179, z179⟩, st179⟩ := X0.virtualBack hx (y := (⟨"java/lang/String", "isLatin1", "()Z"⟩ : MethodName)) (z := (⟨"java/lang/String", "isLatin1", "()Z"⟩ : MethodName)) hown (mvT hZ (hw _ (List.mem_of_getElem? (i := 44) rfl))) (mvT hZ (hw _ (List.mem_of_getElem? (i := 45) rfl))) (notFace_of_selects (args := #[]) (mvT hZ (hw _ (List.mem_of_getElem? (i := 47) rfl)))) (mvT hZ (hw _ (List.mem_of_getElem? (i := 47) rfl))) (mvT hZ (hw _ (List.mem_of_getElem? (i := 46) rfl))) (by decide) (backOf (W := 0) (rm_islatin1 l Z a0 hw [] a cs h0 n0 Z0 Fc S0 hcs O) hZ (hw _ (List.mem_of_getElem? (i := 48) rfl)) (hw _ (List.mem_of_getElem? (i := 10) rfl)) (by decide) (by decide)) q179a q179c (g := (mkF mt 1 #[.val (.ref a), .val (.int (124 : Int32)), .val (.int (0 : Int32))] [(.ref a)])) rfl (by rw [hml]; rfl) (Steps.refl _) (argsL := []) (rest := []) (lenOf pd_5 rfl) rfl (by show 2 * 0 + _ ≤ _; exact Nat.le_of_eq rfl) (hb hby d_jdk_42_method_80_1) (fun _ _ => ⟨rfl, e0, (by decide : 0 + 0 ≤ _), (by decide : 0 + 0 ≤ _)⟩)
  dsimp only [Pt.U, Pt.locs, Pt.cells, Pt.slots] at X179 l179 y179 z179 st179 hQ179
  subst y179 z179
  replace X179 : Stand p l e _ s mt args below meth cd T179 L179 0 0 := X179
  obtain ⟨h179, e179⟩ : ∃ z, T179.heap = z := ⟨_, rfl⟩
  rw [e179] at hQ179
  obtain ⟨rfl, Nq179, eh179⟩ := hQ179
  have N179 : Fr n0 L179 := by rw [l179]; exact Fr.app N0 Nq179
  rw [eh179] at e179
  refine Win.tr ?_ st179
  show Win p e below _ T179 (mkF mt 4 #[.val (.ref a), .val (.int (124 : Int32)), .val (.int (0 : Int32))] [(.int (1 : Int32))])
  refine Win.st ?_ (fun tq kq => XS.ifNo X179.here hx rfl (hb hby d_jdk_42_method_80_4) rfl ((if0 _ _).trans (feq (by decide : ¬ ((1 : Int32) = (0 : Int32)))).1) kq)
  show Win p e below _ T179 (mkF mt 7 #[.val (.ref a), .val (.int (124 : Int32)), .val (.int (0 : Int32))] [])
  refine Win.st ?_ (fun tq kq => XS.aloadN X179.here hx rfl (hb hby d_jdk_42_method_80_7) rfl rfl kq)
  show Win p e below _ T179 (mkF mt 8 #[.val (.ref a), .val (.int (124 : Int32)), .val (.int (0 : Int32))] [(.ref a)])
  obtain ⟨T180, X180, e180, st180⟩ := getF X179 hx hZ hown (host := "") (Or.inl (hw _ (List.mem_of_getElem? (i := 28) rfl))) Via.refl e179 Fv (g := (mkF mt 8 #[.val (.ref a), .val (.int (124 : Int32)), .val (.int (0 : Int32))] [(.ref a)])) rfl rfl (hb hby d_jdk_42_method_80_8)
  refine Win.st ?_ st180
  show Win p e below _ T180 (mkF mt 11 #[.val (.ref a), .val (.int (124 : Int32)), .val (.int (0 : Int32))] [(.ref b)])
  refine Win.st ?_ (fun tq kq => XS.iloadN X180.here hx rfl (hb hby d_jdk_42_method_80_11) rfl kq)
  show Win p e below _ T180 (mkF mt 12 #[.val (.ref a), .val (.int (124 : Int32)), .val (.int (0 : Int32))] [(.int (124 : Int32)), (.ref b)])
  refine Win.st ?_ (fun tq kq => XS.iloadN X180.here hx rfl (hb hby d_jdk_42_method_80_12) rfl kq)
  show Win p e below _ T180 (mkF mt 13 #[.val (.ref a), .val (.int (124 : Int32)), .val (.int (0 : Int32))] [(.int (0 : Int32)), (.int (124 : Int32)), (.ref b)])
  refine Win.st ?_ (fun tq kq => XS.aloadN X180.here hx rfl (hb hby d_jdk_42_method_80_13) rfl rfl kq)
  show Win p e below _ T180 (mkF mt 14 #[.val (.ref a), .val (.int (124 : Int32)), .val (.int (0 : Int32))] [(.ref a), (.int (0 : Int32)), (.int (124 : Int32)), (.ref b)])
  obtain ⟨cq181, kq181, q181a, q181b, q181c⟩ := isOf hZ e180 E
  obtain ⟨v181, _, ⟨T181, L181, k181, n181⟩, -, X181, ⟨Lc181, hQ181, l181, y181, z181⟩, st181⟩ := X180.virtualBack hx (y := (⟨"java/lang/String", "length", "()I"⟩ : MethodName)) (z := (⟨"java/lang/String", "length", "()I"⟩ : MethodName)) hown (mvT hZ (hw _ (List.mem_of_getElem? (i := 50) rfl))) (mvT hZ (hw _ (List.mem_of_getElem? (i := 51) rfl))) (notFace_of_selects (args := #[]) (mvT hZ (hw _ (List.mem_of_getElem? (i := 53) rfl)))) (mvT hZ (hw _ (List.mem_of_getElem? (i := 53) rfl))) (mvT hZ (hw _ (List.mem_of_getElem? (i := 52) rfl))) (by decide) (backOf (W := 3) (rm_slen l Z a0 hw [] a b kb (2 : Int32) [(.int (x0.toInt8.toInt32)), (.int (x1.toInt8.toInt32))] cs h0 n0 Z0 E Fv Fc VB S0 hcs O) hZ (hw _ (List.mem_of_getElem? (i := 54) rfl)) (hw _ (List.mem_of_getElem? (i := 10) rfl)) (by decide) (by decide)) q181a q181c (g := (mkF mt 14 #[.val (.ref a), .val (.int (124 : Int32)), .val (.int (0 : Int32))] [(.ref a), (.int (0 : Int32)), (.int (124 : Int32)), (.ref b)])) rfl (by rw [hml]; rfl) (Steps.refl _) (argsL := []) (rest := [(.int (0 : Int32)), (.int (124 : Int32)), (.ref b)]) (lenOf pd_6 rfl) rfl (by show 2 * 0 + _ ≤ _; exact Nat.le_of_eq rfl) (hb hby d_jdk_42_method_80_14) (fun _ _ => ⟨rfl, e180, (by decide : 0 + 0 ≤ _), (by decide : 0 + 0 ≤ _)⟩)
  dsimp only [Pt.U, Pt.locs, Pt.cells, Pt.slots] at X181 l181 y181 z181 st181 hQ181
  subst y181 z181
  replace X181 : Stand p l e _ s mt args below meth cd T181 L181 0 0 := X181
  obtain ⟨h181, e181⟩ : ∃ z, T181.heap = z := ⟨_, rfl⟩
  rw [e181] at hQ181
  obtain ⟨rfl, Nq181, eh181⟩ := hQ181
  have N181 : Fr n0 L181 := by rw [l181]; exact Fr.app N179 Nq181
  rw [eh181] at e181
  refine Win.tr ?_ st181
  show Win p e below _ T181 (mkF mt 17 #[.val (.ref a), .val (.int (124 : Int32)), .val (.int (0 : Int32))] [(.int (2 : Int32)), (.int (0 : Int32)), (.int (124 : Int32)), (.ref b)])
  obtain ⟨v182, _, ⟨T182, L182, k182, n182⟩, -, X182, ⟨Lc182, hQ182, l182, y182, z182⟩, st182⟩ := Jvm.LawKit.callS X181 hx (y := (⟨"java/lang/StringLatin1", "indexOf", "([BIII)I"⟩ : MethodName)) hown (mvT hZ (hw _ (List.mem_of_getElem? (i := 60) rfl))) (mvT hZ (hw _ (List.mem_of_getElem? (i := 61) rfl))) (mvT hZ (hw _ (List.mem_of_getElem? (i := 62) rfl))) (mvT hZ (hw _ (List.mem_of_getElem? (i := 63) rfl))) (by decide) (backOf (W := 0) (rm_lio_2 l Z a0 hw [] b kb x0 x1 h0 n0 Z0 VB hp0 hp1) hZ (hw _ (List.mem_of_getElem? (i := 63) rfl)) (hw _ (List.mem_of_getElem? (i := 62) rfl)) (by decide) (by decide)) (g := (mkF mt 17 #[.val (.ref a), .val (.int (124 : Int32)), .val (.int (0 : Int32))] [(.int (2 : Int32)), (.int (0 : Int32)), (.int (124 : Int32)), (.ref b)])) rfl (by rw [hml]; rfl) (argsL := [(.ref b), (.int (124 : Int32)), (.int (0 : Int32)), (.int (2 : Int32))]) (rest := []) (lenOf pd_7 rfl) rfl (by show 2 * 0 + _ ≤ _; exact Nat.le_of_eq rfl) (hb hby d_jdk_42_method_80_17) (fun _ _ => ⟨rfl, e181, (by decide : 0 + 0 ≤ _), (by decide : 0 + 0 ≤ _)⟩)
  dsimp only [Pt.U, Pt.locs, Pt.cells, Pt.slots] at X182 l182 y182 z182 st182 hQ182
  subst y182 z182
  replace X182 : Stand p l e _ s mt args below meth cd T182 L182 0 0 := X182
  obtain ⟨h182, e182⟩ : ∃ z, T182.heap = z := ⟨_, rfl⟩
  rw [e182] at hQ182
  obtain ⟨rr, rfl, Nq182, eh182, hr⟩ := hQ182
  have N182 : Fr n0 L182 := by rw [l182]; exact Fr.app N181 Nq182
  rw [eh182] at e182
  refine Win.st ?_ st182
  show Win p e below _ T182 (mkF mt 20 #[.val (.ref a), .val (.int (124 : Int32)), .val (.int (0 : Int32))] [(.int rr)])
  refine Win.st ?_ (fun tq kq => XS.goto X182.here hx rfl (pc0 := 20) (pc' := 36) rfl (hb hby d_jdk_42_method_80_20) (by decide) (by decide) kq)
  show Win p e below _ T182 (mkF mt 36 #[.val (.ref a), .val (.int (124 : Int32)), .val (.int (0 : Int32))] [(.int rr)])
  exact Win.ret X182 hx hlk e182 hrt rfl (Or.inl ⟨rfl, Or.inl rfl, _, rfl⟩) (hb hby d_jdk_42_method_80_36) (by decide) (by decide) ⟨_, rfl, N182, rfl, hr⟩
theorem ef_io1_2 (mt : MethodId) (a : Addr) : entryFrame mt #[(.ref a), (.int (124 : Int32))] 2 = mkF mt 0 #[.val (.ref a), .val (.int (124 : Int32))] [] := by first | (simp [entryFrame, mkF, argsToLocals, Value.category]; done) | rfl
def Q_io1_2 (Z : State) (a : Addr) (b : Addr) (kb : ClassId) (cs : Int32) (x0 : Int32) (x1 : Int32) (h0 : Heap) (n0 : Nat) (v : Option Value) (h : Heap) (L : List Loc) : Prop := ∃ r : Int32, v = some (.int r) ∧ Fr n0 L ∧ h = h0 ∧ (r < 0 ↔ (¬ (x0 = (124 : Int32)) ∧ ¬ (x1 = (124 : Int32))))
set_option maxRecDepth 65536 in
set_option maxHeartbeats 40000000 in
theorem rm_io1_2 (l : Launch) (Z : State) (a0 : Array Value) (hw : ∀ d ∈ tables_1, d.before a0 Z = true) (ws : List Jvm.Cond) (a : Addr) (b : Addr) (kb : ClassId) (cs : Int32) (x0 : Int32) (x1 : Int32) (h0 : Heap) (n0 : Nat) (Z0 : n0 ≤ h0.size) (E : Exa Z h0 a "java/lang/String") (Fv : Fld Z h0 a "java/lang/String" "value" "[B" (.ref b)) (Fc : Fld Z h0 a "java/lang/String" "coder" "B" (.int (0 : Int32))) (VB : Arv Z h0 b kb .byte (2 : Int32) [(.int (x0.toInt8.toInt32)), (.int (x1.toInt8.toInt32))] (.int (0 : Int32))) (S0 : Sta Z Z.heap "java/lang/String" "COMPACT_STRINGS" "Z" (.int cs)) (hcs : ¬ cs = (0 : Int32)) (O : Old Z n0 h0) (hp0 : own_B x0) (hp1 : own_B x1) :
    MetFree l (⟨"java/lang/String", "indexOf", "(I)I"⟩ : MethodName) (head1 (Jvm.Cond.code (⟨"java/lang/String", "indexOf", "(I)I"⟩ : MethodName) jdk_42_method_79_code 2 (some .int) :: ws) ({ frames := 3, cells := 0, slots := 0, locals := 46 } : Room)) (fun aa UU => aa = #[(.ref a), (.int (124 : Int32))] ∧ Z.Warmed39 UU.vm ∧ UU.heap = h0) (fun _ _ _ _ _ => True) (fun _ UU oo UU' => ∃ vv LL, oo = .returned vv ∧ Q_io1_2 Z a b kb cs x0 x1 h0 n0 vv UU'.heap LL ∧ FrameEnd UU oo UU' LL ({ frames := 3, cells := 0, slots := 0, locals := 46 } : Room).cells ({ frames := 3, cells := 0, slots := 0, locals := 46 } : Room).slots) := by
  refine MetFree.of_bodySF (plainFor_of_name pn_1) hisR ?_
  intro p e s mt args below meth cd s₁ Bd hml0 hP hK
  obtain ⟨hA, hZ, hh⟩ := hP
  have hx := Bd.exec
  have hby := Bd.bytes
  have hml : cd.maxLocals = 2 := hml0
  have hown : s.vm.findClass "java/lang/String" = some mt.cls := findClass_of_methodNamed Bd.named
  have hnm := (name_of_methodNamed Bd.named Bd.method).1
  have hlk : meth.locks = false := BodyLoose.notSynchronized Bd
  have hrt := Bd.returns
  have X0 : Stand p l e ({ frames := 3, cells := 0, slots := 0, locals := 46 } : Room) s mt args below meth cd s₁ [] 0 0 := Stand.of_body Bd
  have e0 : s₁.heap = h0 := by rw [← hh, Bd.state]; rfl
  have N0 := Fr.nil n0
  show Win p e below (Ends s (Q_io1_2 Z a b kb cs x0 x1 h0 n0) ({ frames := 3, cells := 0, slots := 0, locals := 46 } : Room).cells ({ frames := 3, cells := 0, slots := 0, locals := 46 } : Room).slots) s₁ (entryFrame mt args 2)
  rw [hA, ef_io1_2]
  refine Win.st ?_ (fun tq kq => XS.aloadN X0.here hx rfl (hb hby d_jdk_42_method_79_0) rfl rfl kq)
  show Win p e below _ s₁ (mkF mt 1 #[.val (.ref a), .val (.int (124 : Int32))] [(.ref a)])
  refine Win.st ?_ (fun tq kq => XS.iloadN X0.here hx rfl (hb hby d_jdk_42_method_79_1) rfl kq)
  show Win p e below _ s₁ (mkF mt 2 #[.val (.ref a), .val (.int (124 : Int32))] [(.int (124 : Int32)), (.ref a)])
  refine Win.st ?_ (fun tq kq => XS.iconst X0.here hx rfl (hb hby d_jdk_42_method_79_2) kq)
  show Win p e below _ s₁ (mkF mt 3 #[.val (.ref a), .val (.int (124 : Int32))] [(.int (0 : Int32)), (.int (124 : Int32)), (.ref a)])
  obtain ⟨cq183, kq183, q183a, q183b, q183c⟩ := isOf hZ e0 E
  obtain ⟨v183, _, ⟨T183, L183, k183, n183⟩, -, X183, ⟨Lc183, hQ183, l183, y183, z183⟩, st183⟩ := X0.virtualBack hx (y := (⟨"java/lang/String", "indexOf", "(II)I"⟩ : MethodName)) (z := (⟨"java/lang/String", "indexOf", "(II)I"⟩ : MethodName)) hown (mvT hZ (hw _ (List.mem_of_getElem? (i := 39) rfl))) (mvT hZ (hw _ (List.mem_of_getElem? (i := 40) rfl))) (notFace_of_selects (args := #[]) (mvT hZ (hw _ (List.mem_of_getElem? (i := 42) rfl)))) (mvT hZ (hw _ (List.mem_of_getElem? (i := 42) rfl))) (mvT hZ (hw _ (List.mem_of_getElem? (i := 41) rfl))) (by decide) (backOf (W := 0) (rm_io2_2 l Z a0 hw [] a b kb cs x0 x1 h0 n0 Z0 E Fv Fc VB S0 hcs O hp0 hp1) hZ (hw _ (List.mem_of_getElem? (i := 43) rfl)) (hw _ (List.mem_of_getElem? (i := 10) rfl)) (by decide) (by decide)) q183a q183c (g := (mkF mt 3 #[.val (.ref a), .val (.int (124 : Int32))] [(.int (0 : Int32)), (.int (124 : Int32)), (.ref a)])) rfl (by rw [hml]; rfl) (Steps.refl _) (argsL := [(.int (124 : Int32)), (.int (0 : Int32))]) (rest := []) (lenOf pd_4 rfl) rfl (by show 2 * 0 + _ ≤ _; exact Nat.le_of_eq rfl) (hb hby d_jdk_42_method_79_3) (fun _ _ => ⟨rfl, e0, (by decide : 0 + 0 ≤ _), (by decide : 0 + 0 ≤ _)⟩)
  dsimp only [Pt.U, Pt.locs, Pt.cells, Pt.slots] at X183 l183 y183 z183 st183 hQ183
  subst y183 z183
  replace X183 : Stand p l e _ s mt args below meth cd T183 L183 0 0 := X183
  obtain ⟨h183, e183⟩ : ∃ z, T183.heap = z := ⟨_, rfl⟩
  rw [e183] at hQ183
  obtain ⟨rr, rfl, Nq183, eh183, hr⟩ := hQ183
  have N183 : Fr n0 L183 := by rw [l183]; exact Fr.app N0 Nq183
  rw [eh183] at e183
  refine Win.tr ?_ st183
  show Win p e below _ T183 (mkF mt 6 #[.val (.ref a), .val (.int (124 : Int32))] [(.int rr)])
  exact Win.ret X183 hx hlk e183 hrt rfl (Or.inl ⟨rfl, Or.inl rfl, _, rfl⟩) (hb hby d_jdk_42_method_79_6) (by decide) (by decide) ⟨_, rfl, N183, rfl, hr⟩
theorem ef_hsy_2 (mt : MethodId) (a : Addr) : entryFrame mt #[(.ref a)] 1 = mkF mt 0 #[.val (.ref a)] [] := by first | (simp [entryFrame, mkF, argsToLocals, Value.category]; done) | rfl
def Q_hsy_2 (Z : State) (a : Addr) (b : Addr) (kb : ClassId) (cs : Int32) (x0 : Int32) (x1 : Int32) (h0 : Heap) (n0 : Nat) (v : Option Value) (h : Heap) (L : List Loc) : Prop := ∃ r : Int32, v = some (.int r) ∧ Fr n0 L ∧ h = h0 ∧ ((¬ (x0 = (124 : Int32)) ∧ ¬ (x1 = (124 : Int32))) → r = 1) ∧ (¬ (¬ (x0 = (124 : Int32)) ∧ ¬ (x1 = (124 : Int32))) → r = 0)
set_option maxRecDepth 65536 in
set_option maxHeartbeats 40000000 in
theorem rm_hsy_2 (l : Launch) (Z : State) (a0 : Array Value) (hw : ∀ d ∈ tables_1, d.before a0 Z = true) (ws : List Jvm.Cond) (a : Addr) (b : Addr) (kb : ClassId) (cs : Int32) (x0 : Int32) (x1 : Int32) (h0 : Heap) (n0 : Nat) (Z0 : n0 ≤ h0.size) (E : Exa Z h0 a "java/lang/String") (Fv : Fld Z h0 a "java/lang/String" "value" "[B" (.ref b)) (Fc : Fld Z h0 a "java/lang/String" "coder" "B" (.int (0 : Int32))) (VB : Arv Z h0 b kb .byte (2 : Int32) [(.int (x0.toInt8.toInt32)), (.int (x1.toInt8.toInt32))] (.int (0 : Int32))) (S0 : Sta Z Z.heap "java/lang/String" "COMPACT_STRINGS" "Z" (.int cs)) (hcs : ¬ cs = (0 : Int32)) (O : Old Z n0 h0) (hp0 : own_B x0) (hp1 : own_B x1) :
    MetFree l (⟨"com/example/foldkey/foldkey/store/Token", "holdsSystem", "(Ljava/lang/String;)Z"⟩ : MethodName) (head1 (Jvm.Cond.code (⟨"com/example/foldkey/foldkey/store/Token", "holdsSystem", "(Ljava/lang/String;)Z"⟩ : MethodName) prog_39_method_3_code 1 (some .boolean) :: ws) ({ frames := 4, cells := 0, slots := 0, locals := 59 } : Room)) (fun aa UU => aa = #[(.ref a)] ∧ Z.Warmed39 UU.vm ∧ UU.heap = h0) (fun _ _ _ _ _ => True) (fun _ UU oo UU' => ∃ vv LL, oo = .returned vv ∧ Q_hsy_2 Z a b kb cs x0 x1 h0 n0 vv UU'.heap LL ∧ FrameEnd UU oo UU' LL ({ frames := 4, cells := 0, slots := 0, locals := 59 } : Room).cells ({ frames := 4, cells := 0, slots := 0, locals := 59 } : Room).slots) := by
  refine MetFree.of_bodySF (plainFor_of_name pn_3) hisR ?_
  intro p e s mt args below meth cd s₁ Bd hml0 hP hK
  obtain ⟨hA, hZ, hh⟩ := hP
  have hx := Bd.exec
  have hby := Bd.bytes
  have hml : cd.maxLocals = 1 := hml0
  have hown : s.vm.findClass "com/example/foldkey/foldkey/store/Token" = some mt.cls := findClass_of_methodNamed Bd.named
  have hnm := (name_of_methodNamed Bd.named Bd.method).1
  have hlk : meth.locks = false := BodyLoose.notSynchronized Bd
  have hrt := Bd.returns
  have X0 : Stand p l e ({ frames := 4, cells := 0, slots := 0, locals := 59 } : Room) s mt args below meth cd s₁ [] 0 0 := Stand.of_body Bd
  have e0 : s₁.heap = h0 := by rw [← hh, Bd.state]; rfl
  have N0 := Fr.nil n0
  show Win p e below (Ends s (Q_hsy_2 Z a b kb cs x0 x1 h0 n0) ({ frames := 4, cells := 0, slots := 0, locals := 59 } : Room).cells ({ frames := 4, cells := 0, slots := 0, locals := 59 } : Room).slots) s₁ (entryFrame mt args 1)
  rw [hA, ef_hsy_2]
  refine Win.st ?_ (fun tq kq => XS.aloadN X0.here hx rfl (hb hby d_prog_39_method_3_0) rfl rfl kq)
  show Win p e below _ s₁ (mkF mt 1 #[.val (.ref a)] [(.ref a)])
  refine Win.st ?_ (fun tq kq => XS.bipush X0.here hx rfl (hb hby d_prog_39_method_3_1) kq)
  show Win p e below _ s₁ (mkF mt 3 #[.val (.ref a)] [(.int (124 : Int32)), (.ref a)])
  obtain ⟨cq184, kq184, q184a, q184b, q184c⟩ := isOf hZ e0 E
  obtain ⟨v184, _, ⟨T184, L184, k184, n184⟩, -, X184, ⟨Lc184, hQ184, l184, y184, z184⟩, st184⟩ := X0.virtualBack hx (y := (⟨"java/lang/String", "indexOf", "(I)I"⟩ : MethodName)) (z := (⟨"java/lang/String", "indexOf", "(I)I"⟩ : MethodName)) hown (mvT hZ (hw _ (List.mem_of_getElem? (i := 34) rfl))) (mvT hZ (hw _ (List.mem_of_getElem? (i := 35) rfl))) (notFace_of_selects (args := #[]) (mvT hZ (hw _ (List.mem_of_getElem? (i := 37) rfl)))) (mvT hZ (hw _ (List.mem_of_getElem? (i := 37) rfl))) (mvT hZ (hw _ (List.mem_of_getElem? (i := 36) rfl))) (by decide) (backOf (W := 0) (rm_io1_2 l Z a0 hw [] a b kb cs x0 x1 h0 n0 Z0 E Fv Fc VB S0 hcs O hp0 hp1) hZ (hw _ (List.mem_of_getElem? (i := 38) rfl)) (hw _ (List.mem_of_getElem? (i := 10) rfl)) (by decide) (by decide)) q184a q184c (g := (mkF mt 3 #[.val (.ref a)] [(.int (124 : Int32)), (.ref a)])) rfl (by rw [hml]; rfl) (Steps.refl _) (argsL := [(.int (124 : Int32))]) (rest := []) (lenOf pd_8 rfl) rfl (by show 2 * 0 + _ ≤ _; exact Nat.le_of_eq rfl) (hb hby d_prog_39_method_3_3) (fun _ _ => ⟨rfl, e0, (by decide : 0 + 0 ≤ _), (by decide : 0 + 0 ≤ _)⟩)
  dsimp only [Pt.U, Pt.locs, Pt.cells, Pt.slots] at X184 l184 y184 z184 st184 hQ184
  subst y184 z184
  replace X184 : Stand p l e _ s mt args below meth cd T184 L184 0 0 := X184
  obtain ⟨h184, e184⟩ : ∃ z, T184.heap = z := ⟨_, rfl⟩
  rw [e184] at hQ184
  obtain ⟨rr, rfl, Nq184, eh184, hr⟩ := hQ184
  have N184 : Fr n0 L184 := by rw [l184]; exact Fr.app N0 Nq184
  rw [eh184] at e184
  refine Win.tr ?_ st184
  show Win p e below _ T184 (mkF mt 6 #[.val (.ref a)] [(.int rr)])
  by_cases hc6 : rr < (0 : Int32)
  · refine Win.st ?_ (fun tq kq => XS.ifNo X184.here hx rfl (hb hby d_prog_39_method_3_6) rfl ((if0 _ _).trans (tlt hc6).2.1) kq)
    show Win p e below _ T184 (mkF mt 9 #[.val (.ref a)] [])
    refine Win.st ?_ (fun tq kq => XS.iconst X184.here hx rfl (hb hby d_prog_39_method_3_9) kq)
    show Win p e below _ T184 (mkF mt 10 #[.val (.ref a)] [(.int (1 : Int32))])
    refine Win.st ?_ (fun tq kq => XS.goto X184.here hx rfl (pc0 := 10) (pc' := 14) rfl (hb hby d_prog_39_method_3_10) (by decide) (by decide) kq)
    show Win p e below _ T184 (mkF mt 14 #[.val (.ref a)] [(.int (1 : Int32))])
    exact Win.retN X184 hx hlk e184 (t := .boolean) (z' := (1 : Int32)) hrt (by simp) (hb hby d_prog_39_method_3_14) (by decide) (by decide) rfl ⟨_, rfl, N184, rfl, fun _ => rfl, fun q => absurd (hr.mp hc6) q⟩
  · refine Win.st ?_ (fun tq kq => XS.ifYes X184.here hx rfl (pc0 := 6) (pc' := 13) rfl (hb hby d_prog_39_method_3_6) rfl ((if0 _ _).trans (flt hc6).2.1) (by decide) (by decide) kq)
    show Win p e below _ T184 (mkF mt 13 #[.val (.ref a)] [])
    refine Win.st ?_ (fun tq kq => XS.iconst X184.here hx rfl (hb hby d_prog_39_method_3_13) kq)
    show Win p e below _ T184 (mkF mt 14 #[.val (.ref a)] [(.int (0 : Int32))])
    exact Win.retN X184 hx hlk e184 (t := .boolean) (z' := (0 : Int32)) hrt (by simp) (hb hby d_prog_39_method_3_14) (by decide) (by decide) rfl ⟨_, rfl, N184, rfl, fun q => absurd (hr.mpr q) hc6, fun _ => rfl⟩
theorem ef_cmp5_3 (mt : MethodId) (a : Addr) (b : Addr) : entryFrame mt #[(.ref a), (.int (0 : Int32)), (.ref b), (.int (0 : Int32)), (.int (3 : Int32))] 7 = mkF mt 0 #[.val (.ref a), .val (.int (0 : Int32)), .val (.ref b), .val (.int (0 : Int32)), .val (.int (3 : Int32)), .unset, .unset] [] := by first | (simp [entryFrame, mkF, argsToLocals, Value.category]; done) | rfl
def Q_cmp5_3 (Z : State) (a : Addr) (b : Addr) (ka : ClassId) (kb : ClassId) (x0 : Int32) (x1 : Int32) (x2 : Int32) (h0 : Heap) (n0 : Nat) (v : Option Value) (h : Heap) (L : List Loc) : Prop := v = some (.int (3 : Int32)) ∧ Fr n0 L ∧ Keep h0 h [b] ∧ Arv Z h b kb .byte (3 : Int32) [(.int (x0.toInt8.toInt32)), (.int (x1.toInt8.toInt32)), (.int (x2.toInt8.toInt32))] (.int (0 : Int32))
set_option maxRecDepth 65536 in
set_option maxHeartbeats 40000000 in
theorem rm_cmp5_3 (l : Launch) (Z : State) (a0 : Array Value) (hw : ∀ d ∈ tables_1, d.before a0 Z = true) (ws : List Jvm.Cond) (a : Addr) (b : Addr) (ka : ClassId) (kb : ClassId) (x0 : Int32) (x1 : Int32) (x2 : Int32) (h0 : Heap) (n0 : Nat) (Z0 : n0 ≤ h0.size) (VA : Arv Z h0 a ka .char (3 : Int32) [(.int x0), (.int x1), (.int x2)] (.int (0 : Int32))) (VB : Arv Z h0 b kb .byte (3 : Int32) [(.int (0 : Int32)), (.int (0 : Int32)), (.int (0 : Int32))] (.int (0 : Int32))) (gb : n0 ≤ b) (nab : a ≠ b) (hp0 : own_B x0) (hp1 : own_B x1) (hp2 : own_B x2) :
    MetFree l (⟨"java/lang/StringUTF16", "compress", "([CI[BII)I"⟩ : MethodName) (head1 (Jvm.Cond.code (⟨"java/lang/StringUTF16", "compress", "([CI[BII)I"⟩ : MethodName) jdk_52_method_21_code 7 (some .int) :: ws) ({ frames := 0, cells := 0, slots := 0, locals := 0 } : Room)) (fun aa UU => aa = #[(.ref a), (.int (0 : Int32)), (.ref b), (.int (0 : Int32)), (.int (3 : Int32))] ∧ Z.Warmed39 UU.vm ∧ UU.heap = h0) (fun _ _ _ _ _ => True) (fun _ UU oo UU' => ∃ vv LL, oo = .returned vv ∧ Q_cmp5_3 Z a b ka kb x0 x1 x2 h0 n0 vv UU'.heap LL ∧ FrameEnd UU oo UU' LL ({ frames := 0, cells := 0, slots := 0, locals := 0 } : Room).cells ({ frames := 0, cells := 0, slots := 0, locals := 0 } : Room).slots) := by
  refine MetFree.of_bodySF (plainFor_of_name pn_4) hisR ?_
  intro p e s mt args below meth cd s₁ Bd hml0 hP hK
  obtain ⟨hA, hZ, hh⟩ := hP
  have hx := Bd.exec
  have hby := Bd.bytes
  have hml : cd.maxLocals = 7 := hml0
  have hown : s.vm.findClass "java/lang/StringUTF16" = some mt.cls := findClass_of_methodNamed Bd.named
  have hnm := (name_of_methodNamed Bd.named Bd.method).1
  have hlk : meth.locks = false := BodyLoose.notSynchronized Bd
  have hrt := Bd.returns
  have X0 : Stand p l e ({ frames := 0, cells := 0, slots := 0, locals := 0 } : Room) s mt args below meth cd s₁ [] 0 0 := Stand.of_body Bd
  have e0 : s₁.heap = h0 := by rw [← hh, Bd.state]; rfl
  have N0 := Fr.nil n0
  show Win p e below (Ends s (Q_cmp5_3 Z a b ka kb x0 x1 x2 h0 n0) ({ frames := 0, cells := 0, slots := 0, locals := 0 } : Room).cells ({ frames := 0, cells := 0, slots := 0, locals := 0 } : Room).slots) s₁ (entryFrame mt args 7)
  rw [hA, ef_cmp5_3]
  refine Win.st ?_ (fun tq kq => XS.iconst X0.here hx rfl (hb hby d_jdk_52_method_21_0) kq)
  show Win p e below _ s₁ (mkF mt 1 #[.val (.ref a), .val (.int (0 : Int32)), .val (.ref b), .val (.int (0 : Int32)), .val (.int (3 : Int32)), .unset, .unset] [(.int (0 : Int32))])
  refine Win.st ?_ (fun tq kq => XS.istore X0.here hx rfl (hb hby d_jdk_52_method_21_1) rfl (l' := #[.val (.ref a), .val (.int (0 : Int32)), .val (.ref b), .val (.int (0 : Int32)), .val (.int (3 : Int32)), .val (.int (0 : Int32)), .unset]) rfl kq)
  show Win p e below _ s₁ (mkF mt 3 #[.val (.ref a), .val (.int (0 : Int32)), .val (.ref b), .val (.int (0 : Int32)), .val (.int (3 : Int32)), .val (.int (0 : Int32)), .unset] [])
  refine Win.st ?_ (fun tq kq => XS.iload X0.here hx rfl (hb hby d_jdk_52_method_21_3) rfl kq)
  show Win p e below _ s₁ (mkF mt 5 #[.val (.ref a), .val (.int (0 : Int32)), .val (.ref b), .val (.int (0 : Int32)), .val (.int (3 : Int32)), .val (.int (0 : Int32)), .unset] [(.int (0 : Int32))])
  refine Win.st ?_ (fun tq kq => XS.iload X0.here hx rfl (hb hby d_jdk_52_method_21_5) rfl kq)
  show Win p e below _ s₁ (mkF mt 7 #[.val (.ref a), .val (.int (0 : Int32)), .val (.ref b), .val (.int (0 : Int32)), .val (.int (3 : Int32)), .val (.int (0 : Int32)), .unset] [(.int (3 : Int32)), (.int (0 : Int32))])
  refine Win.st ?_ (fun tq kq => XS.icmpNo X0.here hx rfl (hb hby d_jdk_52_method_21_7) rfl (tlt (by decide : (0 : Int32) < (3 : Int32))).2.1 kq)
  show Win p e below _ s₁ (mkF mt 10 #[.val (.ref a), .val (.int (0 : Int32)), .val (.ref b), .val (.int (0 : Int32)), .val (.int (3 : Int32)), .val (.int (0 : Int32)), .unset] [])
  refine Win.st ?_ (fun tq kq => XS.aloadN X0.here hx rfl (hb hby d_jdk_52_method_21_10) rfl rfl kq)
  show Win p e below _ s₁ (mkF mt 11 #[.val (.ref a), .val (.int (0 : Int32)), .val (.ref b), .val (.int (0 : Int32)), .val (.int (3 : Int32)), .val (.int (0 : Int32)), .unset] [(.ref a)])
  refine Win.st ?_ (fun tq kq => XS.iloadN X0.here hx rfl (hb hby d_jdk_52_method_21_11) rfl kq)
  show Win p e below _ s₁ (mkF mt 12 #[.val (.ref a), .val (.int (0 : Int32)), .val (.ref b), .val (.int (0 : Int32)), .val (.int (3 : Int32)), .val (.int (0 : Int32)), .unset] [(.int (0 : Int32)), (.ref a)])
  refine Win.st ?_ (own_cald (g := (mkF mt 12 #[.val (.ref a), .val (.int (0 : Int32)), .val (.ref b), .val (.int (0 : Int32)), .val (.int (3 : Int32)), .val (.int (0 : Int32)), .unset] [(.int (0 : Int32)), (.ref a)])) X0 hx hZ e0 VA (j := (0 : Int32)) (v := (.int x0)) (by decide) (by decide) rfl rfl rfl (hb hby d_jdk_52_method_21_12))
  show Win p e below _ s₁ (mkF mt 13 #[.val (.ref a), .val (.int (0 : Int32)), .val (.ref b), .val (.int (0 : Int32)), .val (.int (3 : Int32)), .val (.int (0 : Int32)), .unset] [(.int x0)])
  refine Win.st ?_ (fun tq kq => XS.istore X0.here hx rfl (hb hby d_jdk_52_method_21_13) rfl (l' := #[.val (.ref a), .val (.int (0 : Int32)), .val (.ref b), .val (.int (0 : Int32)), .val (.int (3 : Int32)), .val (.int (0 : Int32)), .val (.int x0)]) rfl kq)
  show Win p e below _ s₁ (mkF mt 15 #[.val (.ref a), .val (.int (0 : Int32)), .val (.ref b), .val (.int (0 : Int32)), .val (.int (3 : Int32)), .val (.int (0 : Int32)), .val (.int x0)] [])
  refine Win.st ?_ (fun tq kq => XS.iload X0.here hx rfl (hb hby d_jdk_52_method_21_15) rfl kq)
  show Win p e below _ s₁ (mkF mt 17 #[.val (.ref a), .val (.int (0 : Int32)), .val (.ref b), .val (.int (0 : Int32)), .val (.int (3 : Int32)), .val (.int (0 : Int32)), .val (.int x0)] [(.int x0)])
  refine Win.st ?_ (fun tq kq => XS.sipush X0.here hx rfl (hb hby d_jdk_52_method_21_17) kq)
  show Win p e below _ s₁ (mkF mt 20 #[.val (.ref a), .val (.int (0 : Int32)), .val (.ref b), .val (.int (0 : Int32)), .val (.int (3 : Int32)), .val (.int (0 : Int32)), .val (.int x0)] [(.int (255 : Int32)), (.int x0)])
  refine Win.st ?_ (fun tq kq => XS.icmpYes X0.here hx rfl (pc0 := 20) (pc' := 26) rfl (hb hby d_jdk_52_method_21_20) rfl (flt (own_nlt (by rw [own_i255]; exact hp0.2))).2.2.2 (by decide) (by decide) kq)
  show Win p e below _ s₁ (mkF mt 26 #[.val (.ref a), .val (.int (0 : Int32)), .val (.ref b), .val (.int (0 : Int32)), .val (.int (3 : Int32)), .val (.int (0 : Int32)), .val (.int x0)] [])
  refine Win.st ?_ (fun tq kq => XS.aloadN X0.here hx rfl (hb hby d_jdk_52_method_21_26) rfl rfl kq)
  show Win p e below _ s₁ (mkF mt 27 #[.val (.ref a), .val (.int (0 : Int32)), .val (.ref b), .val (.int (0 : Int32)), .val (.int (3 : Int32)), .val (.int (0 : Int32)), .val (.int x0)] [(.ref b)])
  refine Win.st ?_ (fun tq kq => XS.iloadN X0.here hx rfl (hb hby d_jdk_52_method_21_27) rfl kq)
  show Win p e below _ s₁ (mkF mt 28 #[.val (.ref a), .val (.int (0 : Int32)), .val (.ref b), .val (.int (0 : Int32)), .val (.int (3 : Int32)), .val (.int (0 : Int32)), .val (.int x0)] [(.int (0 : Int32)), (.ref b)])
  refine Win.st ?_ (fun tq kq => XS.iload X0.here hx rfl (hb hby d_jdk_52_method_21_28) rfl kq)
  show Win p e below _ s₁ (mkF mt 30 #[.val (.ref a), .val (.int (0 : Int32)), .val (.ref b), .val (.int (0 : Int32)), .val (.int (3 : Int32)), .val (.int (0 : Int32)), .val (.int x0)] [(.int x0), (.int (0 : Int32)), (.ref b)])
  refine Win.st ?_ (fun tq kq => XS.i2b X0.here hx rfl (hb hby d_jdk_52_method_21_30) rfl kq)
  show Win p e below _ s₁ (mkF mt 31 #[.val (.ref a), .val (.int (0 : Int32)), .val (.ref b), .val (.int (0 : Int32)), .val (.int (3 : Int32)), .val (.int (0 : Int32)), .val (.int x0)] [(.int (x0.toInt8.toInt32)), (.int (0 : Int32)), (.ref b)])
  obtain ⟨T185, h185, L185, X185, N185, e185, kp185, V185, st185⟩ := own_bast (g := (mkF mt 31 #[.val (.ref a), .val (.int (0 : Int32)), .val (.ref b), .val (.int (0 : Int32)), .val (.int (3 : Int32)), .val (.int (0 : Int32)), .val (.int x0)] [(.int (x0.toInt8.toInt32)), (.int (0 : Int32)), (.ref b)])) X0 hx hZ e0 N0 gb VB (j := (0 : Int32)) (by decide) (by decide) (i := 0) rfl (by simp) rfl rfl (hb hby d_jdk_52_method_21_31)
  rw [own_b8] at V185
  replace V185 : Arv Z h185 b kb .byte (3 : Int32) ([(.int (x0.toInt8.toInt32)), (.int (0 : Int32)), (.int (0 : Int32))]) (.int (0 : Int32)) := V185
  have f186_35 := VA.keep kp185 (ninS nab nin0)
  have Z187 : n0 ≤ h185.size := Nat.le_trans Z0 kp185.1
  have K188 : Keep h0 h185 [b] := Keep.trans (Keep.refl h0 [b]) kp185 (allS (Or.inl (List.mem_of_getElem? (i := 0) rfl)) all0)
  refine Win.st ?_ st185
  show Win p e below _ T185 (mkF mt 32 #[.val (.ref a), .val (.int (0 : Int32)), .val (.ref b), .val (.int (0 : Int32)), .val (.int (3 : Int32)), .val (.int (0 : Int32)), .val (.int x0)] [])
  refine Win.st ?_ (fun tq kq => XS.iinc X185.here hx rfl (hb hby d_jdk_52_method_21_32) rfl (l' := #[.val (.ref a), .val (.int (1 : Int32)), .val (.ref b), .val (.int (0 : Int32)), .val (.int (3 : Int32)), .val (.int (0 : Int32)), .val (.int x0)]) rfl kq)
  show Win p e below _ T185 (mkF mt 35 #[.val (.ref a), .val (.int (1 : Int32)), .val (.ref b), .val (.int (0 : Int32)), .val (.int (3 : Int32)), .val (.int (0 : Int32)), .val (.int x0)] [])
  refine Win.st ?_ (fun tq kq => XS.iinc X185.here hx rfl (hb hby d_jdk_52_method_21_35) rfl (l' := #[.val (.ref a), .val (.int (1 : Int32)), .val (.ref b), .val (.int (1 : Int32)), .val (.int (3 : Int32)), .val (.int (0 : Int32)), .val (.int x0)]) rfl kq)
  show Win p e below _ T185 (mkF mt 38 #[.val (.ref a), .val (.int (1 : Int32)), .val (.ref b), .val (.int (1 : Int32)), .val (.int (3 : Int32)), .val (.int (0 : Int32)), .val (.int x0)] [])
  refine Win.st ?_ (fun tq kq => XS.iinc X185.here hx rfl (hb hby d_jdk_52_method_21_38) rfl (l' := #[.val (.ref a), .val (.int (1 : Int32)), .val (.ref b), .val (.int (1 : Int32)), .val (.int (3 : Int32)), .val (.int (1 : Int32)), .val (.int x0)]) rfl kq)
  show Win p e below _ T185 (mkF mt 41 #[.val (.ref a), .val (.int (1 : Int32)), .val (.ref b), .val (.int (1 : Int32)), .val (.int (3 : Int32)), .val (.int (1 : Int32)), .val (.int x0)] [])
  refine Win.st ?_ (fun tq kq => XS.goto X185.here hx rfl (pc0 := 41) (pc' := 3) rfl (hb hby d_jdk_52_method_21_41) (by decide) (by decide) kq)
  show Win p e below _ T185 (mkF mt 3 #[.val (.ref a), .val (.int (1 : Int32)), .val (.ref b), .val (.int (1 : Int32)), .val (.int (3 : Int32)), .val (.int (1 : Int32)), .val (.int x0)] [])
  refine Win.st ?_ (fun tq kq => XS.iload X185.here hx rfl (hb hby d_jdk_52_method_21_3) rfl kq)
  show Win p e below _ T185 (mkF mt 5 #[.val (.ref a), .val (.int (1 : Int32)), .val (.ref b), .val (.int (1 : Int32)), .val (.int (3 : Int32)), .val (.int (1 : Int32)), .val (.int x0)] [(.int (1 : Int32))])
  refine Win.st ?_ (fun tq kq => XS.iload X185.here hx rfl (hb hby d_jdk_52_method_21_5) rfl kq)
  show Win p e below _ T185 (mkF mt 7 #[.val (.ref a), .val (.int (1 : Int32)), .val (.ref b), .val (.int (1 : Int32)), .val (.int (3 : Int32)), .val (.int (1 : Int32)), .val (.int x0)] [(.int (3 : Int32)), (.int (1 : Int32))])
  refine Win.st ?_ (fun tq kq => XS.icmpNo X185.here hx rfl (hb hby d_jdk_52_method_21_7) rfl (tlt (by decide : (1 : Int32) < (3 : Int32))).2.1 kq)
  show Win p e below _ T185 (mkF mt 10 #[.val (.ref a), .val (.int (1 : Int32)), .val (.ref b), .val (.int (1 : Int32)), .val (.int (3 : Int32)), .val (.int (1 : Int32)), .val (.int x0)] [])
  refine Win.st ?_ (fun tq kq => XS.aloadN X185.here hx rfl (hb hby d_jdk_52_method_21_10) rfl rfl kq)
  show Win p e below _ T185 (mkF mt 11 #[.val (.ref a), .val (.int (1 : Int32)), .val (.ref b), .val (.int (1 : Int32)), .val (.int (3 : Int32)), .val (.int (1 : Int32)), .val (.int x0)] [(.ref a)])
  refine Win.st ?_ (fun tq kq => XS.iloadN X185.here hx rfl (hb hby d_jdk_52_method_21_11) rfl kq)
  show Win p e below _ T185 (mkF mt 12 #[.val (.ref a), .val (.int (1 : Int32)), .val (.ref b), .val (.int (1 : Int32)), .val (.int (3 : Int32)), .val (.int (1 : Int32)), .val (.int x0)] [(.int (1 : Int32)), (.ref a)])
  refine Win.st ?_ (own_cald (g := (mkF mt 12 #[.val (.ref a), .val (.int (1 : Int32)), .val (.ref b), .val (.int (1 : Int32)), .val (.int (3 : Int32)), .val (.int (1 : Int32)), .val (.int x0)] [(.int (1 : Int32)), (.ref a)])) X185 hx hZ e185 f186_35 (j := (1 : Int32)) (v := (.int x1)) (by decide) (by decide) rfl rfl rfl (hb hby d_jdk_52_method_21_12))
  show Win p e below _ T185 (mkF mt 13 #[.val (.ref a), .val (.int (1 : Int32)), .val (.ref b), .val (.int (1 : Int32)), .val (.int (3 : Int32)), .val (.int (1 : Int32)), .val (.int x0)] [(.int x1)])
  refine Win.st ?_ (fun tq kq => XS.istore X185.here hx rfl (hb hby d_jdk_52_method_21_13) rfl (l' := #[.val (.ref a), .val (.int (1 : Int32)), .val (.ref b), .val (.int (1 : Int32)), .val (.int (3 : Int32)), .val (.int (1 : Int32)), .val (.int x1)]) rfl kq)
  show Win p e below _ T185 (mkF mt 15 #[.val (.ref a), .val (.int (1 : Int32)), .val (.ref b), .val (.int (1 : Int32)), .val (.int (3 : Int32)), .val (.int (1 : Int32)), .val (.int x1)] [])
  refine Win.st ?_ (fun tq kq => XS.iload X185.here hx rfl (hb hby d_jdk_52_method_21_15) rfl kq)
  show Win p e below _ T185 (mkF mt 17 #[.val (.ref a), .val (.int (1 : Int32)), .val (.ref b), .val (.int (1 : Int32)), .val (.int (3 : Int32)), .val (.int (1 : Int32)), .val (.int x1)] [(.int x1)])
  refine Win.st ?_ (fun tq kq => XS.sipush X185.here hx rfl (hb hby d_jdk_52_method_21_17) kq)
  show Win p e below _ T185 (mkF mt 20 #[.val (.ref a), .val (.int (1 : Int32)), .val (.ref b), .val (.int (1 : Int32)), .val (.int (3 : Int32)), .val (.int (1 : Int32)), .val (.int x1)] [(.int (255 : Int32)), (.int x1)])
  refine Win.st ?_ (fun tq kq => XS.icmpYes X185.here hx rfl (pc0 := 20) (pc' := 26) rfl (hb hby d_jdk_52_method_21_20) rfl (flt (own_nlt (by rw [own_i255]; exact hp1.2))).2.2.2 (by decide) (by decide) kq)
  show Win p e below _ T185 (mkF mt 26 #[.val (.ref a), .val (.int (1 : Int32)), .val (.ref b), .val (.int (1 : Int32)), .val (.int (3 : Int32)), .val (.int (1 : Int32)), .val (.int x1)] [])
  refine Win.st ?_ (fun tq kq => XS.aloadN X185.here hx rfl (hb hby d_jdk_52_method_21_26) rfl rfl kq)
  show Win p e below _ T185 (mkF mt 27 #[.val (.ref a), .val (.int (1 : Int32)), .val (.ref b), .val (.int (1 : Int32)), .val (.int (3 : Int32)), .val (.int (1 : Int32)), .val (.int x1)] [(.ref b)])
  refine Win.st ?_ (fun tq kq => XS.iloadN X185.here hx rfl (hb hby d_jdk_52_method_21_27) rfl kq)
  show Win p e below _ T185 (mkF mt 28 #[.val (.ref a), .val (.int (1 : Int32)), .val (.ref b), .val (.int (1 : Int32)), .val (.int (3 : Int32)), .val (.int (1 : Int32)), .val (.int x1)] [(.int (1 : Int32)), (.ref b)])
  refine Win.st ?_ (fun tq kq => XS.iload X185.here hx rfl (hb hby d_jdk_52_method_21_28) rfl kq)
  show Win p e below _ T185 (mkF mt 30 #[.val (.ref a), .val (.int (1 : Int32)), .val (.ref b), .val (.int (1 : Int32)), .val (.int (3 : Int32)), .val (.int (1 : Int32)), .val (.int x1)] [(.int x1), (.int (1 : Int32)), (.ref b)])
  refine Win.st ?_ (fun tq kq => XS.i2b X185.here hx rfl (hb hby d_jdk_52_method_21_30) rfl kq)
  show Win p e below _ T185 (mkF mt 31 #[.val (.ref a), .val (.int (1 : Int32)), .val (.ref b), .val (.int (1 : Int32)), .val (.int (3 : Int32)), .val (.int (1 : Int32)), .val (.int x1)] [(.int (x1.toInt8.toInt32)), (.int (1 : Int32)), (.ref b)])
  obtain ⟨T189, h189, L189, X189, N189, e189, kp189, V189, st189⟩ := own_bast (g := (mkF mt 31 #[.val (.ref a), .val (.int (1 : Int32)), .val (.ref b), .val (.int (1 : Int32)), .val (.int (3 : Int32)), .val (.int (1 : Int32)), .val (.int x1)] [(.int (x1.toInt8.toInt32)), (.int (1 : Int32)), (.ref b)])) X185 hx hZ e185 N185 gb V185 (j := (1 : Int32)) (by decide) (by decide) (i := 1) rfl (by simp) rfl rfl (hb hby d_jdk_52_method_21_31)
  rw [own_b8] at V189
  replace V189 : Arv Z h189 b kb .byte (3 : Int32) ([(.int (x0.toInt8.toInt32)), (.int (x1.toInt8.toInt32)), (.int (0 : Int32))]) (.int (0 : Int32)) := V189
  have f190_79 := f186_35.keep kp189 (ninS nab nin0)
  have Z191 : n0 ≤ h189.size := Nat.le_trans Z187 kp189.1
  have K192 : Keep h0 h189 [b] := Keep.trans K188 kp189 (allS (Or.inl (List.mem_of_getElem? (i := 0) rfl)) all0)
  refine Win.st ?_ st189
  show Win p e below _ T189 (mkF mt 32 #[.val (.ref a), .val (.int (1 : Int32)), .val (.ref b), .val (.int (1 : Int32)), .val (.int (3 : Int32)), .val (.int (1 : Int32)), .val (.int x1)] [])
  refine Win.st ?_ (fun tq kq => XS.iinc X189.here hx rfl (hb hby d_jdk_52_method_21_32) rfl (l' := #[.val (.ref a), .val (.int (2 : Int32)), .val (.ref b), .val (.int (1 : Int32)), .val (.int (3 : Int32)), .val (.int (1 : Int32)), .val (.int x1)]) rfl kq)
  show Win p e below _ T189 (mkF mt 35 #[.val (.ref a), .val (.int (2 : Int32)), .val (.ref b), .val (.int (1 : Int32)), .val (.int (3 : Int32)), .val (.int (1 : Int32)), .val (.int x1)] [])
  refine Win.st ?_ (fun tq kq => XS.iinc X189.here hx rfl (hb hby d_jdk_52_method_21_35) rfl (l' := #[.val (.ref a), .val (.int (2 : Int32)), .val (.ref b), .val (.int (2 : Int32)), .val (.int (3 : Int32)), .val (.int (1 : Int32)), .val (.int x1)]) rfl kq)
  show Win p e below _ T189 (mkF mt 38 #[.val (.ref a), .val (.int (2 : Int32)), .val (.ref b), .val (.int (2 : Int32)), .val (.int (3 : Int32)), .val (.int (1 : Int32)), .val (.int x1)] [])
  refine Win.st ?_ (fun tq kq => XS.iinc X189.here hx rfl (hb hby d_jdk_52_method_21_38) rfl (l' := #[.val (.ref a), .val (.int (2 : Int32)), .val (.ref b), .val (.int (2 : Int32)), .val (.int (3 : Int32)), .val (.int (2 : Int32)), .val (.int x1)]) rfl kq)
  show Win p e below _ T189 (mkF mt 41 #[.val (.ref a), .val (.int (2 : Int32)), .val (.ref b), .val (.int (2 : Int32)), .val (.int (3 : Int32)), .val (.int (2 : Int32)), .val (.int x1)] [])
  refine Win.st ?_ (fun tq kq => XS.goto X189.here hx rfl (pc0 := 41) (pc' := 3) rfl (hb hby d_jdk_52_method_21_41) (by decide) (by decide) kq)
  show Win p e below _ T189 (mkF mt 3 #[.val (.ref a), .val (.int (2 : Int32)), .val (.ref b), .val (.int (2 : Int32)), .val (.int (3 : Int32)), .val (.int (2 : Int32)), .val (.int x1)] [])
  refine Win.st ?_ (fun tq kq => XS.iload X189.here hx rfl (hb hby d_jdk_52_method_21_3) rfl kq)
  show Win p e below _ T189 (mkF mt 5 #[.val (.ref a), .val (.int (2 : Int32)), .val (.ref b), .val (.int (2 : Int32)), .val (.int (3 : Int32)), .val (.int (2 : Int32)), .val (.int x1)] [(.int (2 : Int32))])
  refine Win.st ?_ (fun tq kq => XS.iload X189.here hx rfl (hb hby d_jdk_52_method_21_5) rfl kq)
  show Win p e below _ T189 (mkF mt 7 #[.val (.ref a), .val (.int (2 : Int32)), .val (.ref b), .val (.int (2 : Int32)), .val (.int (3 : Int32)), .val (.int (2 : Int32)), .val (.int x1)] [(.int (3 : Int32)), (.int (2 : Int32))])
  refine Win.st ?_ (fun tq kq => XS.icmpNo X189.here hx rfl (hb hby d_jdk_52_method_21_7) rfl (tlt (by decide : (2 : Int32) < (3 : Int32))).2.1 kq)
  show Win p e below _ T189 (mkF mt 10 #[.val (.ref a), .val (.int (2 : Int32)), .val (.ref b), .val (.int (2 : Int32)), .val (.int (3 : Int32)), .val (.int (2 : Int32)), .val (.int x1)] [])
  refine Win.st ?_ (fun tq kq => XS.aloadN X189.here hx rfl (hb hby d_jdk_52_method_21_10) rfl rfl kq)
  show Win p e below _ T189 (mkF mt 11 #[.val (.ref a), .val (.int (2 : Int32)), .val (.ref b), .val (.int (2 : Int32)), .val (.int (3 : Int32)), .val (.int (2 : Int32)), .val (.int x1)] [(.ref a)])
  refine Win.st ?_ (fun tq kq => XS.iloadN X189.here hx rfl (hb hby d_jdk_52_method_21_11) rfl kq)
  show Win p e below _ T189 (mkF mt 12 #[.val (.ref a), .val (.int (2 : Int32)), .val (.ref b), .val (.int (2 : Int32)), .val (.int (3 : Int32)), .val (.int (2 : Int32)), .val (.int x1)] [(.int (2 : Int32)), (.ref a)])
  refine Win.st ?_ (own_cald (g := (mkF mt 12 #[.val (.ref a), .val (.int (2 : Int32)), .val (.ref b), .val (.int (2 : Int32)), .val (.int (3 : Int32)), .val (.int (2 : Int32)), .val (.int x1)] [(.int (2 : Int32)), (.ref a)])) X189 hx hZ e189 f190_79 (j := (2 : Int32)) (v := (.int x2)) (by decide) (by decide) rfl rfl rfl (hb hby d_jdk_52_method_21_12))
  show Win p e below _ T189 (mkF mt 13 #[.val (.ref a), .val (.int (2 : Int32)), .val (.ref b), .val (.int (2 : Int32)), .val (.int (3 : Int32)), .val (.int (2 : Int32)), .val (.int x1)] [(.int x2)])
  refine Win.st ?_ (fun tq kq => XS.istore X189.here hx rfl (hb hby d_jdk_52_method_21_13) rfl (l' := #[.val (.ref a), .val (.int (2 : Int32)), .val (.ref b), .val (.int (2 : Int32)), .val (.int (3 : Int32)), .val (.int (2 : Int32)), .val (.int x2)]) rfl kq)
  show Win p e below _ T189 (mkF mt 15 #[.val (.ref a), .val (.int (2 : Int32)), .val (.ref b), .val (.int (2 : Int32)), .val (.int (3 : Int32)), .val (.int (2 : Int32)), .val (.int x2)] [])
  refine Win.st ?_ (fun tq kq => XS.iload X189.here hx rfl (hb hby d_jdk_52_method_21_15) rfl kq)
  show Win p e below _ T189 (mkF mt 17 #[.val (.ref a), .val (.int (2 : Int32)), .val (.ref b), .val (.int (2 : Int32)), .val (.int (3 : Int32)), .val (.int (2 : Int32)), .val (.int x2)] [(.int x2)])
  refine Win.st ?_ (fun tq kq => XS.sipush X189.here hx rfl (hb hby d_jdk_52_method_21_17) kq)
  show Win p e below _ T189 (mkF mt 20 #[.val (.ref a), .val (.int (2 : Int32)), .val (.ref b), .val (.int (2 : Int32)), .val (.int (3 : Int32)), .val (.int (2 : Int32)), .val (.int x2)] [(.int (255 : Int32)), (.int x2)])
  refine Win.st ?_ (fun tq kq => XS.icmpYes X189.here hx rfl (pc0 := 20) (pc' := 26) rfl (hb hby d_jdk_52_method_21_20) rfl (flt (own_nlt (by rw [own_i255]; exact hp2.2))).2.2.2 (by decide) (by decide) kq)
  show Win p e below _ T189 (mkF mt 26 #[.val (.ref a), .val (.int (2 : Int32)), .val (.ref b), .val (.int (2 : Int32)), .val (.int (3 : Int32)), .val (.int (2 : Int32)), .val (.int x2)] [])
  refine Win.st ?_ (fun tq kq => XS.aloadN X189.here hx rfl (hb hby d_jdk_52_method_21_26) rfl rfl kq)
  show Win p e below _ T189 (mkF mt 27 #[.val (.ref a), .val (.int (2 : Int32)), .val (.ref b), .val (.int (2 : Int32)), .val (.int (3 : Int32)), .val (.int (2 : Int32)), .val (.int x2)] [(.ref b)])
  refine Win.st ?_ (fun tq kq => XS.iloadN X189.here hx rfl (hb hby d_jdk_52_method_21_27) rfl kq)
  show Win p e below _ T189 (mkF mt 28 #[.val (.ref a), .val (.int (2 : Int32)), .val (.ref b), .val (.int (2 : Int32)), .val (.int (3 : Int32)), .val (.int (2 : Int32)), .val (.int x2)] [(.int (2 : Int32)), (.ref b)])
  refine Win.st ?_ (fun tq kq => XS.iload X189.here hx rfl (hb hby d_jdk_52_method_21_28) rfl kq)
  show Win p e below _ T189 (mkF mt 30 #[.val (.ref a), .val (.int (2 : Int32)), .val (.ref b), .val (.int (2 : Int32)), .val (.int (3 : Int32)), .val (.int (2 : Int32)), .val (.int x2)] [(.int x2), (.int (2 : Int32)), (.ref b)])
  refine Win.st ?_ (fun tq kq => XS.i2b X189.here hx rfl (hb hby d_jdk_52_method_21_30) rfl kq)
  show Win p e below _ T189 (mkF mt 31 #[.val (.ref a), .val (.int (2 : Int32)), .val (.ref b), .val (.int (2 : Int32)), .val (.int (3 : Int32)), .val (.int (2 : Int32)), .val (.int x2)] [(.int (x2.toInt8.toInt32)), (.int (2 : Int32)), (.ref b)])
  obtain ⟨T193, h193, L193, X193, N193, e193, kp193, V193, st193⟩ := own_bast (g := (mkF mt 31 #[.val (.ref a), .val (.int (2 : Int32)), .val (.ref b), .val (.int (2 : Int32)), .val (.int (3 : Int32)), .val (.int (2 : Int32)), .val (.int x2)] [(.int (x2.toInt8.toInt32)), (.int (2 : Int32)), (.ref b)])) X189 hx hZ e189 N189 gb V189 (j := (2 : Int32)) (by decide) (by decide) (i := 2) rfl (by simp) rfl rfl (hb hby d_jdk_52_method_21_31)
  rw [own_b8] at V193
  replace V193 : Arv Z h193 b kb .byte (3 : Int32) ([(.int (x0.toInt8.toInt32)), (.int (x1.toInt8.toInt32)), (.int (x2.toInt8.toInt32))]) (.int (0 : Int32)) := V193
  have f194_123 := f190_79.keep kp193 (ninS nab nin0)
  have Z195 : n0 ≤ h193.size := Nat.le_trans Z191 kp193.1
  have K196 : Keep h0 h193 [b] := Keep.trans K192 kp193 (allS (Or.inl (List.mem_of_getElem? (i := 0) rfl)) all0)
  refine Win.st ?_ st193
  show Win p e below _ T193 (mkF mt 32 #[.val (.ref a), .val (.int (2 : Int32)), .val (.ref b), .val (.int (2 : Int32)), .val (.int (3 : Int32)), .val (.int (2 : Int32)), .val (.int x2)] [])
  refine Win.st ?_ (fun tq kq => XS.iinc X193.here hx rfl (hb hby d_jdk_52_method_21_32) rfl (l' := #[.val (.ref a), .val (.int (3 : Int32)), .val (.ref b), .val (.int (2 : Int32)), .val (.int (3 : Int32)), .val (.int (2 : Int32)), .val (.int x2)]) rfl kq)
  show Win p e below _ T193 (mkF mt 35 #[.val (.ref a), .val (.int (3 : Int32)), .val (.ref b), .val (.int (2 : Int32)), .val (.int (3 : Int32)), .val (.int (2 : Int32)), .val (.int x2)] [])
  refine Win.st ?_ (fun tq kq => XS.iinc X193.here hx rfl (hb hby d_jdk_52_method_21_35) rfl (l' := #[.val (.ref a), .val (.int (3 : Int32)), .val (.ref b), .val (.int (3 : Int32)), .val (.int (3 : Int32)), .val (.int (2 : Int32)), .val (.int x2)]) rfl kq)
  show Win p e below _ T193 (mkF mt 38 #[.val (.ref a), .val (.int (3 : Int32)), .val (.ref b), .val (.int (3 : Int32)), .val (.int (3 : Int32)), .val (.int (2 : Int32)), .val (.int x2)] [])
  refine Win.st ?_ (fun tq kq => XS.iinc X193.here hx rfl (hb hby d_jdk_52_method_21_38) rfl (l' := #[.val (.ref a), .val (.int (3 : Int32)), .val (.ref b), .val (.int (3 : Int32)), .val (.int (3 : Int32)), .val (.int (3 : Int32)), .val (.int x2)]) rfl kq)
  show Win p e below _ T193 (mkF mt 41 #[.val (.ref a), .val (.int (3 : Int32)), .val (.ref b), .val (.int (3 : Int32)), .val (.int (3 : Int32)), .val (.int (3 : Int32)), .val (.int x2)] [])
  refine Win.st ?_ (fun tq kq => XS.goto X193.here hx rfl (pc0 := 41) (pc' := 3) rfl (hb hby d_jdk_52_method_21_41) (by decide) (by decide) kq)
  show Win p e below _ T193 (mkF mt 3 #[.val (.ref a), .val (.int (3 : Int32)), .val (.ref b), .val (.int (3 : Int32)), .val (.int (3 : Int32)), .val (.int (3 : Int32)), .val (.int x2)] [])
  refine Win.st ?_ (fun tq kq => XS.iload X193.here hx rfl (hb hby d_jdk_52_method_21_3) rfl kq)
  show Win p e below _ T193 (mkF mt 5 #[.val (.ref a), .val (.int (3 : Int32)), .val (.ref b), .val (.int (3 : Int32)), .val (.int (3 : Int32)), .val (.int (3 : Int32)), .val (.int x2)] [(.int (3 : Int32))])
  refine Win.st ?_ (fun tq kq => XS.iload X193.here hx rfl (hb hby d_jdk_52_method_21_5) rfl kq)
  show Win p e below _ T193 (mkF mt 7 #[.val (.ref a), .val (.int (3 : Int32)), .val (.ref b), .val (.int (3 : Int32)), .val (.int (3 : Int32)), .val (.int (3 : Int32)), .val (.int x2)] [(.int (3 : Int32)), (.int (3 : Int32))])
  refine Win.st ?_ (fun tq kq => XS.icmpYes X193.here hx rfl (pc0 := 7) (pc' := 44) rfl (hb hby d_jdk_52_method_21_7) rfl (flt (Int32.lt_irrefl)).2.1 (by decide) (by decide) kq)
  show Win p e below _ T193 (mkF mt 44 #[.val (.ref a), .val (.int (3 : Int32)), .val (.ref b), .val (.int (3 : Int32)), .val (.int (3 : Int32)), .val (.int (3 : Int32)), .val (.int x2)] [])
  refine Win.st ?_ (fun tq kq => XS.iload X193.here hx rfl (hb hby d_jdk_52_method_21_44) rfl kq)
  show Win p e below _ T193 (mkF mt 46 #[.val (.ref a), .val (.int (3 : Int32)), .val (.ref b), .val (.int (3 : Int32)), .val (.int (3 : Int32)), .val (.int (3 : Int32)), .val (.int x2)] [(.int (3 : Int32))])
  exact Win.ret X193 hx hlk e193 hrt rfl (Or.inl ⟨rfl, Or.inl rfl, _, rfl⟩) (hb hby d_jdk_52_method_21_46) (by decide) (by decide) ⟨rfl, N193, K196, V193⟩
theorem ef_cmp3_3 (mt : MethodId) (a : Addr) : entryFrame mt #[(.ref a), (.int (0 : Int32)), (.int (3 : Int32))] 6 = mkF mt 0 #[.val (.ref a), .val (.int (0 : Int32)), .val (.int (3 : Int32)), .unset, .unset, .unset] [] := by first | (simp [entryFrame, mkF, argsToLocals, Value.category]; done) | rfl
def Q_cmp3_3 (Z : State) (a : Addr) (ka : ClassId) (x0 : Int32) (x1 : Int32) (x2 : Int32) (h0 : Heap) (n0 : Nat) (v : Option Value) (h : Heap) (L : List Loc) : Prop := ∃ r : Addr, v = some (.ref r) ∧ Fr n0 L ∧ Keep h0 h [] ∧ n0 ≤ r ∧ h0.size ≤ r ∧ ∃ k : ClassId, Arv Z h r k .byte (3 : Int32) [(.int (x0.toInt8.toInt32)), (.int (x1.toInt8.toInt32)), (.int (x2.toInt8.toInt32))] (.int (0 : Int32))
set_option maxRecDepth 65536 in
set_option maxHeartbeats 40000000 in
theorem rm_cmp3_3 (l : Launch) (Z : State) (a0 : Array Value) (hw : ∀ d ∈ tables_1, d.before a0 Z = true) (ws : List Jvm.Cond) (a : Addr) (ka : ClassId) (x0 : Int32) (x1 : Int32) (x2 : Int32) (h0 : Heap) (n0 : Nat) (Z0 : n0 ≤ h0.size) (VA : Arv Z h0 a ka .char (3 : Int32) [(.int x0), (.int x1), (.int x2)] (.int (0 : Int32))) (hp0 : own_B x0) (hp1 : own_B x1) (hp2 : own_B x2) :
    MetFree l (⟨"java/lang/StringUTF16", "compress", "([CII)[B"⟩ : MethodName) (head1 (Jvm.Cond.code (⟨"java/lang/StringUTF16", "compress", "([CII)[B"⟩ : MethodName) jdk_52_method_16_code 6 (some (.array .byte)) :: ws) ({ frames := 1, cells := 1, slots := 3, locals := 18 } : Room)) (fun aa UU => aa = #[(.ref a), (.int (0 : Int32)), (.int (3 : Int32))] ∧ Z.Warmed39 UU.vm ∧ UU.heap = h0) (fun _ _ _ _ _ => True) (fun _ UU oo UU' => ∃ vv LL, oo = .returned vv ∧ Q_cmp3_3 Z a ka x0 x1 x2 h0 n0 vv UU'.heap LL ∧ FrameEnd UU oo UU' LL ({ frames := 1, cells := 1, slots := 3, locals := 18 } : Room).cells ({ frames := 1, cells := 1, slots := 3, locals := 18 } : Room).slots) := by
  refine MetFree.of_bodySF (plainFor_of_name pn_4) hisR ?_
  intro p e s mt args below meth cd s₁ Bd hml0 hP hK
  obtain ⟨hA, hZ, hh⟩ := hP
  have hx := Bd.exec
  have hby := Bd.bytes
  have hml : cd.maxLocals = 6 := hml0
  have hown : s.vm.findClass "java/lang/StringUTF16" = some mt.cls := findClass_of_methodNamed Bd.named
  have hnm := (name_of_methodNamed Bd.named Bd.method).1
  have hlk : meth.locks = false := BodyLoose.notSynchronized Bd
  have hrt := Bd.returns
  have X0 : Stand p l e ({ frames := 1, cells := 1, slots := 3, locals := 18 } : Room) s mt args below meth cd s₁ [] 0 0 := Stand.of_body Bd
  have e0 : s₁.heap = h0 := by rw [← hh, Bd.state]; rfl
  have N0 := Fr.nil n0
  show Win p e below (Ends s (Q_cmp3_3 Z a ka x0 x1 x2 h0 n0) ({ frames := 1, cells := 1, slots := 3, locals := 18 } : Room).cells ({ frames := 1, cells := 1, slots := 3, locals := 18 } : Room).slots) s₁ (entryFrame mt args 6)
  rw [hA, ef_cmp3_3]
  refine Win.st ?_ (fun tq kq => XS.iloadN X0.here hx rfl (hb hby d_jdk_52_method_16_0) rfl kq)
  show Win p e below _ s₁ (mkF mt 1 #[.val (.ref a), .val (.int (0 : Int32)), .val (.int (3 : Int32)), .unset, .unset, .unset] [(.int (3 : Int32))])
  obtain ⟨T197, h197, k197, X197, e197, E197, A197, st197⟩ := newP X0 hx hZ (hw _ (List.mem_of_getElem? (i := 23) rfl)) e0 (g := (mkF mt 1 #[.val (.ref a), .val (.int (0 : Int32)), .val (.int (3 : Int32)), .unset, .unset, .unset] [(.int (3 : Int32))])) rfl (hb hby d_jdk_52_method_16_1) rfl (by decide) (cap := 3) (by decide) (by decide) (by decide) (by decide)
  obtain ⟨b197, gq197⟩ : ∃ z, z = h0.size := ⟨_, rfl⟩
  rw [← gq197] at A197 st197
  have ne198 : a ≠ b197 := own_new gq197 VA.lt
  have g199 : n0 ≤ b197 := own_newle Z0 gq197
  have z200 : h0.size ≤ b197 := own_newle (Keep.refl h0 []).1 gq197
  have ke197 := own_kext E197
  replace X197 : Stand p l e _ s mt args below meth cd T197 _ 1 3 := X197
  have f201_10 := VA.keep ke197 nin0
  have Z202 : n0 ≤ h197.size := Nat.le_trans Z0 ke197.1
  have K203 : Keep h0 h197 [] := Keep.trans (Keep.refl h0 []) ke197 all0
  have V197 : Arv Z h197 b197 k197 .byte (3 : Int32) [(.int (0 : Int32)), (.int (0 : Int32)), (.int (0 : Int32))] (.int (0 : Int32)) := (Arv.new A197 (by decide)).pad (pad_rep [] (.int (0 : Int32)) 3)
  refine Win.st ?_ st197
  show Win p e below _ T197 (mkF mt 3 #[.val (.ref a), .val (.int (0 : Int32)), .val (.int (3 : Int32)), .unset, .unset, .unset] [(.ref b197)])
  refine Win.st ?_ (fun tq kq => XS.astoreN X197.here hx rfl (hb hby d_jdk_52_method_16_3) rfl rfl (l' := #[.val (.ref a), .val (.int (0 : Int32)), .val (.int (3 : Int32)), .val (.ref b197), .unset, .unset]) rfl kq)
  show Win p e below _ T197 (mkF mt 4 #[.val (.ref a), .val (.int (0 : Int32)), .val (.int (3 : Int32)), .val (.ref b197), .unset, .unset] [])
  refine Win.st ?_ (fun tq kq => XS.aloadN X197.here hx rfl (hb hby d_jdk_52_method_16_4) rfl rfl kq)
  show Win p e below _ T197 (mkF mt 5 #[.val (.ref a), .val (.int (0 : Int32)), .val (.int (3 : Int32)), .val (.ref b197), .unset, .unset] [(.ref a)])
  refine Win.st ?_ (fun tq kq => XS.iloadN X197.here hx rfl (hb hby d_jdk_52_method_16_5) rfl kq)
  show Win p e below _ T197 (mkF mt 6 #[.val (.ref a), .val (.int (0 : Int32)), .val (.int (3 : Int32)), .val (.ref b197), .unset, .unset] [(.int (0 : Int32)), (.ref a)])
  refine Win.st ?_ (fun tq kq => XS.aloadN X197.here hx rfl (hb hby d_jdk_52_method_16_6) rfl rfl kq)
  show Win p e below _ T197 (mkF mt 7 #[.val (.ref a), .val (.int (0 : Int32)), .val (.int (3 : Int32)), .val (.ref b197), .unset, .unset] [(.ref b197), (.int (0 : Int32)), (.ref a)])
  refine Win.st ?_ (fun tq kq => XS.iconst X197.here hx rfl (hb hby d_jdk_52_method_16_7) kq)
  show Win p e below _ T197 (mkF mt 8 #[.val (.ref a), .val (.int (0 : Int32)), .val (.int (3 : Int32)), .val (.ref b197), .unset, .unset] [(.int (0 : Int32)), (.ref b197), (.int (0 : Int32)), (.ref a)])
  refine Win.st ?_ (fun tq kq => XS.iloadN X197.here hx rfl (hb hby d_jdk_52_method_16_8) rfl kq)
  show Win p e below _ T197 (mkF mt 9 #[.val (.ref a), .val (.int (0 : Int32)), .val (.int (3 : Int32)), .val (.ref b197), .unset, .unset] [(.int (3 : Int32)), (.int (0 : Int32)), (.ref b197), (.int (0 : Int32)), (.ref a)])
  obtain ⟨v204, _, ⟨T204, L204, k204, n204⟩, -, X204, ⟨Lc204, hQ204, l204, y204, z204⟩, st204⟩ := Jvm.LawKit.callS X197 hx (y := (⟨"java/lang/StringUTF16", "compress", "([CI[BII)I"⟩ : MethodName)) hown (mvT hZ (hw _ (List.mem_of_getElem? (i := 78) rfl))) (mvT hZ (hw _ (List.mem_of_getElem? (i := 79) rfl))) (mvT hZ (hw _ (List.mem_of_getElem? (i := 76) rfl))) (mvT hZ (hw _ (List.mem_of_getElem? (i := 80) rfl))) (by decide) (backOf (W := 0) (rm_cmp5_3 l Z a0 hw [] a b197 ka k197 x0 x1 x2 h197 n0 Z202 f201_10 V197 g199 ne198 hp0 hp1 hp2) hZ (hw _ (List.mem_of_getElem? (i := 80) rfl)) (hw _ (List.mem_of_getElem? (i := 76) rfl)) (by decide) (by decide)) (g := (mkF mt 9 #[.val (.ref a), .val (.int (0 : Int32)), .val (.int (3 : Int32)), .val (.ref b197), .unset, .unset] [(.int (3 : Int32)), (.int (0 : Int32)), (.ref b197), (.int (0 : Int32)), (.ref a)])) rfl (by rw [hml]; rfl) (argsL := [(.ref a), (.int (0 : Int32)), (.ref b197), (.int (0 : Int32)), (.int (3 : Int32))]) (rest := []) (lenOf pd_9 rfl) rfl (by show 2 * 0 + _ ≤ _; exact Nat.le_of_eq rfl) (hb hby d_jdk_52_method_16_9) (fun _ _ => ⟨rfl, e197, (by decide : 1 + 0 ≤ _), (by decide : 3 + 0 ≤ _)⟩)
  dsimp only [Pt.U, Pt.locs, Pt.cells, Pt.slots] at X204 l204 y204 z204 st204 hQ204
  subst y204 z204
  replace X204 : Stand p l e _ s mt args below meth cd T204 L204 1 3 := X204
  obtain ⟨h204, e204⟩ : ∃ z, T204.heap = z := ⟨_, rfl⟩
  rw [e204] at hQ204
  obtain ⟨rfl, Nq204, K204, V204⟩ := hQ204
  have N204 : Fr n0 L204 := by rw [l204]; exact Fr.app N0 Nq204
  have f205_36 := f201_10.keep K204 (ninS ne198 nin0)
  have Z206 : n0 ≤ h204.size := Nat.le_trans Z202 K204.1
  have K207 : Keep h0 h204 [] := Keep.trans K203 K204 (allS (Or.inr z200) all0)
  refine Win.st ?_ st204
  show Win p e below _ T204 (mkF mt 12 #[.val (.ref a), .val (.int (0 : Int32)), .val (.int (3 : Int32)), .val (.ref b197), .unset, .unset] [(.int (3 : Int32))])
  refine Win.st ?_ (fun tq kq => XS.istore X204.here hx rfl (hb hby d_jdk_52_method_16_12) rfl (l' := #[.val (.ref a), .val (.int (0 : Int32)), .val (.int (3 : Int32)), .val (.ref b197), .val (.int (3 : Int32)), .unset]) rfl kq)
  show Win p e below _ T204 (mkF mt 14 #[.val (.ref a), .val (.int (0 : Int32)), .val (.int (3 : Int32)), .val (.ref b197), .val (.int (3 : Int32)), .unset] [])
  refine Win.st ?_ (fun tq kq => XS.iload X204.here hx rfl (hb hby d_jdk_52_method_16_14) rfl kq)
  show Win p e below _ T204 (mkF mt 16 #[.val (.ref a), .val (.int (0 : Int32)), .val (.int (3 : Int32)), .val (.ref b197), .val (.int (3 : Int32)), .unset] [(.int (3 : Int32))])
  refine Win.st ?_ (fun tq kq => XS.iloadN X204.here hx rfl (hb hby d_jdk_52_method_16_16) rfl kq)
  show Win p e below _ T204 (mkF mt 17 #[.val (.ref a), .val (.int (0 : Int32)), .val (.int (3 : Int32)), .val (.ref b197), .val (.int (3 : Int32)), .unset] [(.int (3 : Int32)), (.int (3 : Int32))])
  refine Win.st ?_ (fun tq kq => XS.icmpYes X204.here hx rfl (pc0 := 17) (pc' := 57) rfl (hb hby d_jdk_52_method_16_17) rfl (teq (rfl : (3 : Int32) = (3 : Int32))).1 (by decide) (by decide) kq)
  show Win p e below _ T204 (mkF mt 57 #[.val (.ref a), .val (.int (0 : Int32)), .val (.int (3 : Int32)), .val (.ref b197), .val (.int (3 : Int32)), .unset] [])
  refine Win.st ?_ (fun tq kq => XS.aloadN X204.here hx rfl (hb hby d_jdk_52_method_16_57) rfl rfl kq)
  show Win p e below _ T204 (mkF mt 58 #[.val (.ref a), .val (.int (0 : Int32)), .val (.int (3 : Int32)), .val (.ref b197), .val (.int (3 : Int32)), .unset] [(.ref b197)])
  exact Win.ret X204 hx hlk e204 hrt rfl (Or.inr (Or.inr (Or.inr (Or.inr ⟨rfl, rfl, rfl⟩)))) (hb hby d_jdk_52_method_16_58) (by decide) (by decide) ⟨_, rfl, N204, K207, g199, z200, _, V204⟩
theorem ef_cfa_3 (mt : MethodId) (b : Addr) : entryFrame mt #[(.ref b), (.int (3 : Int32))] 2 = mkF mt 0 #[.val (.ref b), .val (.int (3 : Int32))] [] := by first | (simp [entryFrame, mkF, argsToLocals, Value.category]; done) | rfl
def Q_cfa_3 (Z : State) (b : Addr) (kb : ClassId) (vs : List Value) (h0 : Heap) (n0 : Nat) (v : Option Value) (h : Heap) (L : List Loc) : Prop := v = some (.int (0 : Int32)) ∧ Fr n0 L ∧ h = h0
set_option maxRecDepth 65536 in
set_option maxHeartbeats 40000000 in
theorem rm_cfa_3 (l : Launch) (Z : State) (a0 : Array Value) (hw : ∀ d ∈ tables_1, d.before a0 Z = true) (ws : List Jvm.Cond) (b : Addr) (kb : ClassId) (vs : List Value) (h0 : Heap) (n0 : Nat) (Z0 : n0 ≤ h0.size) (VB : Arv Z h0 b kb .byte (3 : Int32) vs (.int (0 : Int32))) :
    MetFree l (⟨"java/lang/StringUTF16", "coderFromArrayLen", "([BI)B"⟩ : MethodName) (head1 (Jvm.Cond.code (⟨"java/lang/StringUTF16", "coderFromArrayLen", "([BI)B"⟩ : MethodName) jdk_52_method_15_code 2 (some .byte) :: ws) ({ frames := 0, cells := 0, slots := 0, locals := 0 } : Room)) (fun aa UU => aa = #[(.ref b), (.int (3 : Int32))] ∧ Z.Warmed39 UU.vm ∧ UU.heap = h0) (fun _ _ _ _ _ => True) (fun _ UU oo UU' => ∃ vv LL, oo = .returned vv ∧ Q_cfa_3 Z b kb vs h0 n0 vv UU'.heap LL ∧ FrameEnd UU oo UU' LL ({ frames := 0, cells := 0, slots := 0, locals := 0 } : Room).cells ({ frames := 0, cells := 0, slots := 0, locals := 0 } : Room).slots) := by
  refine MetFree.of_bodySF (plainFor_of_name pn_4) hisR ?_
  intro p e s mt args below meth cd s₁ Bd hml0 hP hK
  obtain ⟨hA, hZ, hh⟩ := hP
  have hx := Bd.exec
  have hby := Bd.bytes
  have hml : cd.maxLocals = 2 := hml0
  have hown : s.vm.findClass "java/lang/StringUTF16" = some mt.cls := findClass_of_methodNamed Bd.named
  have hnm := (name_of_methodNamed Bd.named Bd.method).1
  have hlk : meth.locks = false := BodyLoose.notSynchronized Bd
  have hrt := Bd.returns
  have X0 : Stand p l e ({ frames := 0, cells := 0, slots := 0, locals := 0 } : Room) s mt args below meth cd s₁ [] 0 0 := Stand.of_body Bd
  have e0 : s₁.heap = h0 := by rw [← hh, Bd.state]; rfl
  have N0 := Fr.nil n0
  show Win p e below (Ends s (Q_cfa_3 Z b kb vs h0 n0) ({ frames := 0, cells := 0, slots := 0, locals := 0 } : Room).cells ({ frames := 0, cells := 0, slots := 0, locals := 0 } : Room).slots) s₁ (entryFrame mt args 2)
  rw [hA, ef_cfa_3]
  refine Win.st ?_ (fun tq kq => XS.iloadN X0.here hx rfl (hb hby d_jdk_52_method_15_0) rfl kq)
  show Win p e below _ s₁ (mkF mt 1 #[.val (.ref b), .val (.int (3 : Int32))] [(.int (3 : Int32))])
  refine Win.st ?_ (fun tq kq => XS.aloadN X0.here hx rfl (hb hby d_jdk_52_method_15_1) rfl rfl kq)
  show Win p e below _ s₁ (mkF mt 2 #[.val (.ref b), .val (.int (3 : Int32))] [(.ref b), (.int (3 : Int32))])
  refine Win.st ?_ (own_alen (g := (mkF mt 2 #[.val (.ref b), .val (.int (3 : Int32))] [(.ref b), (.int (3 : Int32))])) X0 hx hZ e0 VB rfl rfl (hb hby d_jdk_52_method_15_2))
  show Win p e below _ s₁ (mkF mt 3 #[.val (.ref b), .val (.int (3 : Int32))] [(.int (3 : Int32)), (.int (3 : Int32))])
  refine Win.st ?_ (fun tq kq => XS.isub X0.here hx rfl (hb hby d_jdk_52_method_15_3) rfl kq)
  show Win p e below _ s₁ (mkF mt 4 #[.val (.ref b), .val (.int (3 : Int32))] [(.int ((3 : Int32) - (3 : Int32)))])
  refine Win.st ?_ (fun tq kq => XS.bipush X0.here hx rfl (hb hby d_jdk_52_method_15_4) kq)
  show Win p e below _ s₁ (mkF mt 6 #[.val (.ref b), .val (.int (3 : Int32))] [(.int (31 : Int32)), (.int ((3 : Int32) - (3 : Int32)))])
  refine Win.st ?_ (fun tq kq => XS.iushr X0.here hx rfl (hb hby d_jdk_52_method_15_6) rfl kq)
  show Win p e below _ s₁ (mkF mt 7 #[.val (.ref b), .val (.int (3 : Int32))] [(.int ((((3 : Int32) - (3 : Int32)).toUInt32 >>> ((31 : Int32) &&& 31).toUInt32).toInt32))])
  refine Win.st ?_ (fun tq kq => XS.i2b X0.here hx rfl (hb hby d_jdk_52_method_15_7) rfl kq)
  show Win p e below _ s₁ (mkF mt 8 #[.val (.ref b), .val (.int (3 : Int32))] [(.int (((((3 : Int32) - (3 : Int32)).toUInt32 >>> ((31 : Int32) &&& 31).toUInt32).toInt32).toInt8.toInt32))])
  exact Win.retN X0 hx hlk e0 (t := .byte) (z' := (0 : Int32)) hrt (by simp) (hb hby d_jdk_52_method_15_8) (by decide) (by decide) (by decide) ⟨rfl, N0, rfl⟩
theorem ef_si6_3 (mt : MethodId) (a : Addr) (c : Addr) : entryFrame mt #[(.ref a), (.ref c), (.int (0 : Int32)), (.int (3 : Int32)), .null] 6 = mkF mt 0 #[.val (.ref a), .val (.ref c), .val (.int (0 : Int32)), .val (.int (3 : Int32)), .val .null, .unset] [] := by first | (simp [entryFrame, mkF, argsToLocals, Value.category]; done) | rfl
def Q_si6_3 (Z : State) (a : Addr) (c : Addr) (cs : Int32) (kc : ClassId) (x0 : Int32) (x1 : Int32) (x2 : Int32) (h0 : Heap) (n0 : Nat) (v : Option Value) (h : Heap) (L : List Loc) : Prop := v = none ∧ Fr n0 L ∧ Keep h0 h [a] ∧ Fld Z h a "java/lang/String" "coder" "B" (.int (0 : Int32)) ∧ ∃ (t : Addr) (k : ClassId), n0 ≤ t ∧ h0.size ≤ t ∧ Fld Z h a "java/lang/String" "value" "[B" (.ref t) ∧ Arv Z h t k .byte (3 : Int32) [(.int (x0.toInt8.toInt32)), (.int (x1.toInt8.toInt32)), (.int (x2.toInt8.toInt32))] (.int (0 : Int32))
set_option maxRecDepth 65536 in
set_option maxHeartbeats 40000000 in
theorem rm_si6_3 (l : Launch) (Z : State) (a0 : Array Value) (hw : ∀ d ∈ tables_1, d.before a0 Z = true) (ws : List Jvm.Cond) (a : Addr) (c : Addr) (cs : Int32) (kc : ClassId) (x0 : Int32) (x1 : Int32) (x2 : Int32) (h0 : Heap) (n0 : Nat) (Z0 : n0 ≤ h0.size) (E : Exa Z h0 a "java/lang/String") (Fv : Fld Z h0 a "java/lang/String" "value" "[B" .null) (Fc : Fld Z h0 a "java/lang/String" "coder" "B" (.int (0 : Int32))) (ga : n0 ≤ a) (S0 : Sta Z Z.heap "java/lang/String" "COMPACT_STRINGS" "Z" (.int cs)) (hcs : ¬ cs = (0 : Int32)) (O : Old Z n0 h0) (VA : Arv Z h0 c kc .char (3 : Int32) [(.int x0), (.int x1), (.int x2)] (.int (0 : Int32))) (nca : c ≠ a) (hp0 : own_B x0) (hp1 : own_B x1) (hp2 : own_B x2) :
    MetFree l (⟨"java/lang/String", "<init>", "([CIILjava/lang/Void;)V"⟩ : MethodName) (head1 (Jvm.Cond.code (⟨"java/lang/String", "<init>", "([CIILjava/lang/Void;)V"⟩ : MethodName) jdk_42_method_149_code 6 none :: ws) ({ frames := 2, cells := 1, slots := 3, locals := 35 } : Room)) (fun aa UU => aa = #[(.ref a), (.ref c), (.int (0 : Int32)), (.int (3 : Int32)), .null] ∧ Z.Warmed39 UU.vm ∧ UU.heap = h0) (fun _ _ _ _ _ => True) (fun _ UU oo UU' => ∃ vv LL, oo = .returned vv ∧ Q_si6_3 Z a c cs kc x0 x1 x2 h0 n0 vv UU'.heap LL ∧ FrameEnd UU oo UU' LL ({ frames := 2, cells := 1, slots := 3, locals := 35 } : Room).cells ({ frames := 2, cells := 1, slots := 3, locals := 35 } : Room).slots) := by
  refine MetFree.of_bodySF (plainFor_of_name pn_1) hisR ?_
  intro p e s mt args below meth cd s₁ Bd hml0 hP hK
  obtain ⟨hA, hZ, hh⟩ := hP
  have hx := Bd.exec
  have hby := Bd.bytes
  have hml : cd.maxLocals = 6 := hml0
  have hown : s.vm.findClass "java/lang/String" = some mt.cls := findClass_of_methodNamed Bd.named
  have hnm := (name_of_methodNamed Bd.named Bd.method).1
  have hlk : meth.locks = false := BodyLoose.notSynchronized Bd
  have hrt := Bd.returns
  have X0 : Stand p l e ({ frames := 2, cells := 1, slots := 3, locals := 35 } : Room) s mt args below meth cd s₁ [] 0 0 := Stand.of_body Bd
  have e0 : s₁.heap = h0 := by rw [← hh, Bd.state]; rfl
  have N0 := Fr.nil n0
  show Win p e below (Ends s (Q_si6_3 Z a c cs kc x0 x1 x2 h0 n0) ({ frames := 2, cells := 1, slots := 3, locals := 35 } : Room).cells ({ frames := 2, cells := 1, slots := 3, locals := 35 } : Room).slots) s₁ (entryFrame mt args 6)
  rw [hA, ef_si6_3]
  refine Win.st ?_ (fun tq kq => XS.aloadN X0.here hx rfl (hb hby d_jdk_42_method_149_0) rfl rfl kq)
  show Win p e below _ s₁ (mkF mt 1 #[.val (.ref a), .val (.ref c), .val (.int (0 : Int32)), .val (.int (3 : Int32)), .val .null, .unset] [(.ref a)])
  obtain ⟨T208, X208, e208, st208⟩ := initO X0 hx hZ hown (hw _ (List.mem_of_getElem? (i := 19) rfl)) (hw _ (List.mem_of_getElem? (i := 20) rfl)) (hw _ (List.mem_of_getElem? (i := 21) rfl)) e0 (g := (mkF mt 1 #[.val (.ref a), .val (.ref c), .val (.int (0 : Int32)), .val (.int (3 : Int32)), .val .null, .unset] [(.ref a)])) rfl (by rw [hml]; rfl) rfl (hb hby d_jdk_42_method_149_1) (by decide) (W := 0) (by show 2 * 0 + _ ≤ _; exact Nat.le_of_eq rfl) (by decide)
  refine Win.st ?_ st208
  show Win p e below _ T208 (mkF mt 4 #[.val (.ref a), .val (.ref c), .val (.int (0 : Int32)), .val (.int (3 : Int32)), .val .null, .unset] [])
  refine Win.st ?_ (fun tq kq => XS.iloadN X208.here hx rfl (hb hby d_jdk_42_method_149_4) rfl kq)
  show Win p e below _ T208 (mkF mt 5 #[.val (.ref a), .val (.ref c), .val (.int (0 : Int32)), .val (.int (3 : Int32)), .val .null, .unset] [(.int (3 : Int32))])
  refine Win.st ?_ (fun tq kq => XS.ifYes X208.here hx rfl (pc0 := 5) (pc' := 27) rfl (hb hby d_jdk_42_method_149_5) rfl ((if0 _ _).trans (feq (by decide : ¬ ((3 : Int32) = (0 : Int32)))).2) (by decide) (by decide) kq)
  show Win p e below _ T208 (mkF mt 27 #[.val (.ref a), .val (.ref c), .val (.int (0 : Int32)), .val (.int (3 : Int32)), .val .null, .unset] [])
  obtain ⟨T209, X209, e209, st209⟩ := getS2 X208 hx hZ hown (host := "") (Or.inl (hw _ (List.mem_of_getElem? (i := 49) rfl))) Via.refl e208 (S0.ext O.2) (g := (mkF mt 27 #[.val (.ref a), .val (.ref c), .val (.int (0 : Int32)), .val (.int (3 : Int32)), .val .null, .unset] [])) rfl (hb hby d_jdk_42_method_149_27)
  refine Win.st ?_ st209
  show Win p e below _ T209 (mkF mt 30 #[.val (.ref a), .val (.ref c), .val (.int (0 : Int32)), .val (.int (3 : Int32)), .val .null, .unset] [(.int cs)])
  refine Win.st ?_ (fun tq kq => XS.ifNo X209.here hx rfl (hb hby d_jdk_42_method_149_30) rfl ((if0 _ _).trans (feq hcs).1) kq)
  show Win p e below _ T209 (mkF mt 33 #[.val (.ref a), .val (.ref c), .val (.int (0 : Int32)), .val (.int (3 : Int32)), .val .null, .unset] [])
  refine Win.st ?_ (fun tq kq => XS.aloadN X209.here hx rfl (hb hby d_jdk_42_method_149_33) rfl rfl kq)
  show Win p e below _ T209 (mkF mt 34 #[.val (.ref a), .val (.ref c), .val (.int (0 : Int32)), .val (.int (3 : Int32)), .val .null, .unset] [(.ref c)])
  refine Win.st ?_ (fun tq kq => XS.iloadN X209.here hx rfl (hb hby d_jdk_42_method_149_34) rfl kq)
  show Win p e below _ T209 (mkF mt 35 #[.val (.ref a), .val (.ref c), .val (.int (0 : Int32)), .val (.int (3 : Int32)), .val .null, .unset] [(.int (0 : Int32)), (.ref c)])
  refine Win.st ?_ (fun tq kq => XS.iloadN X209.here hx rfl (hb hby d_jdk_42_method_149_35) rfl kq)
  show Win p e below _ T209 (mkF mt 36 #[.val (.ref a), .val (.ref c), .val (.int (0 : Int32)), .val (.int (3 : Int32)), .val .null, .unset] [(.int (3 : Int32)), (.int (0 : Int32)), (.ref c)])
  obtain ⟨v210, _, ⟨T210, L210, k210, n210⟩, -, X210, ⟨Lc210, hQ210, l210, y210, z210⟩, st210⟩ := Jvm.LawKit.callS X209 hx (y := (⟨"java/lang/StringUTF16", "compress", "([CII)[B"⟩ : MethodName)) hown (mvT hZ (hw _ (List.mem_of_getElem? (i := 74) rfl))) (mvT hZ (hw _ (List.mem_of_getElem? (i := 75) rfl))) (mvT hZ (hw _ (List.mem_of_getElem? (i := 76) rfl))) (mvT hZ (hw _ (List.mem_of_getElem? (i := 77) rfl))) (by decide) (backOf (W := 0) (rm_cmp3_3 l Z a0 hw [] c kc x0 x1 x2 h0 n0 Z0 VA hp0 hp1 hp2) hZ (hw _ (List.mem_of_getElem? (i := 77) rfl)) (hw _ (List.mem_of_getElem? (i := 76) rfl)) (by decide) (by decide)) (g := (mkF mt 36 #[.val (.ref a), .val (.ref c), .val (.int (0 : Int32)), .val (.int (3 : Int32)), .val .null, .unset] [(.int (3 : Int32)), (.int (0 : Int32)), (.ref c)])) rfl (by rw [hml]; rfl) (argsL := [(.ref c), (.int (0 : Int32)), (.int (3 : Int32))]) (rest := []) (lenOf pd_10 rfl) rfl (by show 2 * 0 + _ ≤ _; exact Nat.le_of_eq rfl) (hb hby d_jdk_42_method_149_36) (fun _ _ => ⟨rfl, e209, (by decide : 0 + 1 ≤ _), (by decide : 0 + 3 ≤ _)⟩)
  dsimp only [Pt.U, Pt.locs, Pt.cells, Pt.slots] at X210 l210 y210 z210 st210 hQ210
  subst y210 z210
  replace X210 : Stand p l e _ s mt args below meth cd T210 L210 1 3 := X210
  obtain ⟨h210, e210⟩ : ∃ z, T210.heap = z := ⟨_, rfl⟩
  rw [e210] at hQ210
  obtain ⟨tt, rfl, Nq210, K210, gt210, zt210, kt, V210⟩ := hQ210
  have N210 : Fr n0 L210 := by rw [l210]; exact Fr.app N0 Nq210
  have f211_28 := O.keep K210 all0
  have f211_29 := E.keep K210
  have f211_30 := Fv.keep K210 nin0
  have f211_31 := Fc.keep K210 nin0
  have f211_32 := VA.keep K210 nin0
  have Z212 : n0 ≤ h210.size := Nat.le_trans Z0 K210.1
  have K213 : Keep h0 h210 [a] := Keep.trans (Keep.refl h0 [a]) K210 all0
  have nat : a ≠ tt := Nat.ne_of_lt (Nat.lt_of_lt_of_le E.lt zt210)
  have szt : h0.size ≤ tt := Nat.le_trans (Keep.refl h0 [a]).1 zt210
  refine Win.st ?_ st210
  show Win p e below _ T210 (mkF mt 39 #[.val (.ref a), .val (.ref c), .val (.int (0 : Int32)), .val (.int (3 : Int32)), .val .null, .unset] [(.ref tt)])
  refine Win.st ?_ (fun tq kq => XS.astore X210.here hx rfl (hb hby d_jdk_42_method_149_39) rfl rfl (l' := #[.val (.ref a), .val (.ref c), .val (.int (0 : Int32)), .val (.int (3 : Int32)), .val .null, .val (.ref tt)]) rfl kq)
  show Win p e below _ T210 (mkF mt 41 #[.val (.ref a), .val (.ref c), .val (.int (0 : Int32)), .val (.int (3 : Int32)), .val .null, .val (.ref tt)] [])
  refine Win.st ?_ (fun tq kq => XS.aloadN X210.here hx rfl (hb hby d_jdk_42_method_149_41) rfl rfl kq)
  show Win p e below _ T210 (mkF mt 42 #[.val (.ref a), .val (.ref c), .val (.int (0 : Int32)), .val (.int (3 : Int32)), .val .null, .val (.ref tt)] [(.ref a)])
  refine Win.st ?_ (fun tq kq => XS.aload X210.here hx rfl (hb hby d_jdk_42_method_149_42) rfl rfl kq)
  show Win p e below _ T210 (mkF mt 44 #[.val (.ref a), .val (.ref c), .val (.int (0 : Int32)), .val (.int (3 : Int32)), .val .null, .val (.ref tt)] [(.ref tt), (.ref a)])
  refine Win.st ?_ (fun tq kq => XS.iloadN X210.here hx rfl (hb hby d_jdk_42_method_149_44) rfl kq)
  show Win p e below _ T210 (mkF mt 45 #[.val (.ref a), .val (.ref c), .val (.int (0 : Int32)), .val (.int (3 : Int32)), .val .null, .val (.ref tt)] [(.int (3 : Int32)), (.ref tt), (.ref a)])
  obtain ⟨v214, _, ⟨T214, L214, k214, n214⟩, -, X214, ⟨Lc214, hQ214, l214, y214, z214⟩, st214⟩ := Jvm.LawKit.callS X210 hx (y := (⟨"java/lang/StringUTF16", "coderFromArrayLen", "([BI)B"⟩ : MethodName)) hown (mvT hZ (hw _ (List.mem_of_getElem? (i := 81) rfl))) (mvT hZ (hw _ (List.mem_of_getElem? (i := 82) rfl))) (mvT hZ (hw _ (List.mem_of_getElem? (i := 76) rfl))) (mvT hZ (hw _ (List.mem_of_getElem? (i := 83) rfl))) (by decide) (backOf (W := 1) (rm_cfa_3 l Z a0 hw [] tt kt [(.int (x0.toInt8.toInt32)), (.int (x1.toInt8.toInt32)), (.int (x2.toInt8.toInt32))] h210 n0 Z212 V210) hZ (hw _ (List.mem_of_getElem? (i := 83) rfl)) (hw _ (List.mem_of_getElem? (i := 76) rfl)) (by decide) (by decide)) (g := (mkF mt 45 #[.val (.ref a), .val (.ref c), .val (.int (0 : Int32)), .val (.int (3 : Int32)), .val .null, .val (.ref tt)] [(.int (3 : Int32)), (.ref tt), (.ref a)])) rfl (by rw [hml]; rfl) (argsL := [(.ref tt), (.int (3 : Int32))]) (rest := [(.ref a)]) (lenOf pd_11 rfl) rfl (by show 2 * 0 + _ ≤ _; exact Nat.le_of_eq rfl) (hb hby d_jdk_42_method_149_45) (fun _ _ => ⟨rfl, e210, (by decide : 1 + 0 ≤ _), (by decide : 3 + 0 ≤ _)⟩)
  dsimp only [Pt.U, Pt.locs, Pt.cells, Pt.slots] at X214 l214 y214 z214 st214 hQ214
  subst y214 z214
  replace X214 : Stand p l e _ s mt args below meth cd T214 L214 1 3 := X214
  obtain ⟨h214, e214⟩ : ∃ z, T214.heap = z := ⟨_, rfl⟩
  rw [e214] at hQ214
  obtain ⟨rfl, Nq214, eh214⟩ := hQ214
  have N214 : Fr n0 L214 := by rw [l214]; exact Fr.app N210 Nq214
  rw [eh214] at e214
  refine Win.st ?_ st214
  show Win p e below _ T214 (mkF mt 48 #[.val (.ref a), .val (.ref c), .val (.int (0 : Int32)), .val (.int (3 : Int32)), .val .null, .val (.ref tt)] [(.int (0 : Int32)), (.ref a)])
  obtain ⟨T215, h215, X215, e215, W215, st215⟩ := putFN X214 hx hZ hown (hw _ (List.mem_of_getElem? (i := 29) rfl)) Via.refl e214 f211_31 f211_29 (Or.inr ⟨(hw _ (List.mem_of_getElem? (i := 25) rfl)), rfl, hnm⟩) (hw _ (List.mem_of_getElem? (i := 9) rfl)) (ty := .byte) (v' := (.int (0 : Int32))) (by decide) rfl (by decide) (g := (mkF mt 48 #[.val (.ref a), .val (.ref c), .val (.int (0 : Int32)), .val (.int (3 : Int32)), .val .null, .val (.ref tt)] [(.int (0 : Int32)), (.ref a)])) rfl rfl (hb hby d_jdk_42_method_149_48)
  obtain ⟨L215, X215, N215⟩ := own_hide X215 N214 ga
  have kp215 := Keep.of_wr W215
  have f215_61 := f211_30.other W215 (Or.inr (slot_ne (Or.inr (hw _ (List.mem_of_getElem? (i := 24) rfl))) (Or.inr (hw _ (List.mem_of_getElem? (i := 25) rfl))) (by decide) (t := (.array .byte)) (t' := .byte) (by decide) (by decide)))
  have fw215 := f211_31.same W215
  have f216_63 := f211_28.keep kp215 (allS ga all0)
  have f216_64 := f211_29.keep kp215
  have f216_65 := f211_32.keep kp215 (ninS nca nin0)
  have f216_66 := V210.keep kp215 (ninS (Ne.symm nat) nin0)
  have Z217 : n0 ≤ h215.size := Nat.le_trans Z212 kp215.1
  have K218 : Keep h0 h215 [a] := Keep.trans K213 kp215 (allS (Or.inl (List.mem_of_getElem? (i := 0) rfl)) all0)
  refine Win.st ?_ st215
  show Win p e below _ T215 (mkF mt 51 #[.val (.ref a), .val (.ref c), .val (.int (0 : Int32)), .val (.int (3 : Int32)), .val .null, .val (.ref tt)] [])
  refine Win.st ?_ (fun tq kq => XS.aloadN X215.here hx rfl (hb hby d_jdk_42_method_149_51) rfl rfl kq)
  show Win p e below _ T215 (mkF mt 52 #[.val (.ref a), .val (.ref c), .val (.int (0 : Int32)), .val (.int (3 : Int32)), .val .null, .val (.ref tt)] [(.ref a)])
  refine Win.st ?_ (fun tq kq => XS.aload X215.here hx rfl (hb hby d_jdk_42_method_149_52) rfl rfl kq)
  show Win p e below _ T215 (mkF mt 54 #[.val (.ref a), .val (.ref c), .val (.int (0 : Int32)), .val (.int (3 : Int32)), .val .null, .val (.ref tt)] [(.ref tt), (.ref a)])
  obtain ⟨T219, h219, X219, e219, W219, st219⟩ := putF X215 hx hZ hown (host := "") (Or.inl (hw _ (List.mem_of_getElem? (i := 28) rfl))) Via.refl e215 f215_61 f216_64 (Or.inr ⟨(hw _ (List.mem_of_getElem? (i := 24) rfl)), rfl, hnm⟩) (hw _ (List.mem_of_getElem? (i := 9) rfl)) (ty := (.array .byte)) (by decide) rfl rfl (g := (mkF mt 54 #[.val (.ref a), .val (.ref c), .val (.int (0 : Int32)), .val (.int (3 : Int32)), .val .null, .val (.ref tt)] [(.ref tt), (.ref a)])) rfl rfl (hb hby d_jdk_42_method_149_54)
  obtain ⟨L219, X219, N219⟩ := own_hide X219 N215 ga
  have kp219 := Keep.of_wr W219
  have fw219 := f215_61.same W219
  have f219_79 := fw215.other W219 (Or.inr (slot_ne (Or.inr (hw _ (List.mem_of_getElem? (i := 25) rfl))) (Or.inr (hw _ (List.mem_of_getElem? (i := 24) rfl))) (by decide) (t := .byte) (t' := (.array .byte)) (by decide) (by decide)))
  have f220_80 := f216_63.keep kp219 (allS ga all0)
  have f220_81 := f216_64.keep kp219
  have f220_82 := f216_65.keep kp219 (ninS nca nin0)
  have f220_83 := f216_66.keep kp219 (ninS (Ne.symm nat) nin0)
  have Z221 : n0 ≤ h219.size := Nat.le_trans Z217 kp219.1
  have K222 : Keep h0 h219 [a] := Keep.trans K218 kp219 (allS (Or.inl (List.mem_of_getElem? (i := 0) rfl)) all0)
  refine Win.st ?_ st219
  show Win p e below _ T219 (mkF mt 57 #[.val (.ref a), .val (.ref c), .val (.int (0 : Int32)), .val (.int (3 : Int32)), .val .null, .val (.ref tt)] [])
  exact Win.retV X219 hx hlk e219 hrt (hb hby d_jdk_42_method_149_57) (by decide) (by decide) ⟨rfl, N219, K222, f219_79, tt, kt, gt210, szt, fw219, f220_83⟩
theorem ef_si3_3 (mt : MethodId) (a : Addr) (c : Addr) : entryFrame mt #[(.ref a), (.ref c)] 2 = mkF mt 0 #[.val (.ref a), .val (.ref c)] [] := by first | (simp [entryFrame, mkF, argsToLocals, Value.category]; done) | rfl
def Q_si3_3 (Z : State) (a : Addr) (c : Addr) (cs : Int32) (kc : ClassId) (x0 : Int32) (x1 : Int32) (x2 : Int32) (h0 : Heap) (n0 : Nat) (v : Option Value) (h : Heap) (L : List Loc) : Prop := v = none ∧ Fr n0 L ∧ Keep h0 h [a] ∧ Fld Z h a "java/lang/String" "coder" "B" (.int (0 : Int32)) ∧ ∃ (t : Addr) (k : ClassId), n0 ≤ t ∧ h0.size ≤ t ∧ Fld Z h a "java/lang/String" "value" "[B" (.ref t) ∧ Arv Z h t k .byte (3 : Int32) [(.int (x0.toInt8.toInt32)), (.int (x1.toInt8.toInt32)), (.int (x2.toInt8.toInt32))] (.int (0 : Int32))
set_option maxRecDepth 65536 in
set_option maxHeartbeats 40000000 in
theorem rm_si3_3 (l : Launch) (Z : State) (a0 : Array Value) (hw : ∀ d ∈ tables_1, d.before a0 Z = true) (ws : List Jvm.Cond) (a : Addr) (c : Addr) (cs : Int32) (kc : ClassId) (x0 : Int32) (x1 : Int32) (x2 : Int32) (h0 : Heap) (n0 : Nat) (Z0 : n0 ≤ h0.size) (E : Exa Z h0 a "java/lang/String") (Fv : Fld Z h0 a "java/lang/String" "value" "[B" .null) (Fc : Fld Z h0 a "java/lang/String" "coder" "B" (.int (0 : Int32))) (ga : n0 ≤ a) (S0 : Sta Z Z.heap "java/lang/String" "COMPACT_STRINGS" "Z" (.int cs)) (hcs : ¬ cs = (0 : Int32)) (O : Old Z n0 h0) (VA : Arv Z h0 c kc .char (3 : Int32) [(.int x0), (.int x1), (.int x2)] (.int (0 : Int32))) (nca : c ≠ a) (hp0 : own_B x0) (hp1 : own_B x1) (hp2 : own_B x2) :
    MetFree l (⟨"java/lang/String", "<init>", "([C)V"⟩ : MethodName) (head1 (Jvm.Cond.code (⟨"java/lang/String", "<init>", "([C)V"⟩ : MethodName) jdk_42_method_3_code 2 none :: ws) ({ frames := 3, cells := 1, slots := 3, locals := 52 } : Room)) (fun aa UU => aa = #[(.ref a), (.ref c)] ∧ Z.Warmed39 UU.vm ∧ UU.heap = h0) (fun _ _ _ _ _ => True) (fun _ UU oo UU' => ∃ vv LL, oo = .returned vv ∧ Q_si3_3 Z a c cs kc x0 x1 x2 h0 n0 vv UU'.heap LL ∧ FrameEnd UU oo UU' LL ({ frames := 3, cells := 1, slots := 3, locals := 52 } : Room).cells ({ frames := 3, cells := 1, slots := 3, locals := 52 } : Room).slots) := by
  refine MetFree.of_bodySF (plainFor_of_name pn_1) hisR ?_
  intro p e s mt args below meth cd s₁ Bd hml0 hP hK
  obtain ⟨hA, hZ, hh⟩ := hP
  have hx := Bd.exec
  have hby := Bd.bytes
  have hml : cd.maxLocals = 2 := hml0
  have hown : s.vm.findClass "java/lang/String" = some mt.cls := findClass_of_methodNamed Bd.named
  have hnm := (name_of_methodNamed Bd.named Bd.method).1
  have hlk : meth.locks = false := BodyLoose.notSynchronized Bd
  have hrt := Bd.returns
  have X0 : Stand p l e ({ frames := 3, cells := 1, slots := 3, locals := 52 } : Room) s mt args below meth cd s₁ [] 0 0 := Stand.of_body Bd
  have e0 : s₁.heap = h0 := by rw [← hh, Bd.state]; rfl
  have N0 := Fr.nil n0
  show Win p e below (Ends s (Q_si3_3 Z a c cs kc x0 x1 x2 h0 n0) ({ frames := 3, cells := 1, slots := 3, locals := 52 } : Room).cells ({ frames := 3, cells := 1, slots := 3, locals := 52 } : Room).slots) s₁ (entryFrame mt args 2)
  rw [hA, ef_si3_3]
  refine Win.st ?_ (fun tq kq => XS.aloadN X0.here hx rfl (hb hby d_jdk_42_method_3_0) rfl rfl kq)
  show Win p e below _ s₁ (mkF mt 1 #[.val (.ref a), .val (.ref c)] [(.ref a)])
  refine Win.st ?_ (fun tq kq => XS.aloadN X0.here hx rfl (hb hby d_jdk_42_method_3_1) rfl rfl kq)
  show Win p e below _ s₁ (mkF mt 2 #[.val (.ref a), .val (.ref c)] [(.ref c), (.ref a)])
  refine Win.st ?_ (fun tq kq => XS.iconst X0.here hx rfl (hb hby d_jdk_42_method_3_2) kq)
  show Win p e below _ s₁ (mkF mt 3 #[.val (.ref a), .val (.ref c)] [(.int (0 : Int32)), (.ref c), (.ref a)])
  refine Win.st ?_ (fun tq kq => XS.aloadN X0.here hx rfl (hb hby d_jdk_42_method_3_3) rfl rfl kq)
  show Win p e below _ s₁ (mkF mt 4 #[.val (.ref a), .val (.ref c)] [(.ref c), (.int (0 : Int32)), (.ref c), (.ref a)])
  refine Win.st ?_ (own_alen (g := (mkF mt 4 #[.val (.ref a), .val (.ref c)] [(.ref c), (.int (0 : Int32)), (.ref c), (.ref a)])) X0 hx hZ e0 VA rfl rfl (hb hby d_jdk_42_method_3_4))
  show Win p e below _ s₁ (mkF mt 5 #[.val (.ref a), .val (.ref c)] [(.int (3 : Int32)), (.int (0 : Int32)), (.ref c), (.ref a)])
  refine Win.st ?_ (fun tq kq => XS.aconstNull X0.here hx rfl (hb hby d_jdk_42_method_3_5) kq)
  show Win p e below _ s₁ (mkF mt 6 #[.val (.ref a), .val (.ref c)] [.null, (.int (3 : Int32)), (.int (0 : Int32)), (.ref c), (.ref a)])
  obtain ⟨v223, _, ⟨T223, L223, k223, n223⟩, -, X223, ⟨Lc223, hQ223, l223, y223, z223⟩, st223⟩ := X0.specialBack hx (y := (⟨"java/lang/String", "<init>", "([CIILjava/lang/Void;)V"⟩ : MethodName)) rfl hown (mvT hZ (hw _ (List.mem_of_getElem? (i := 15) rfl))) (mvT hZ (hw _ (List.mem_of_getElem? (i := 16) rfl))) (mvT hZ (hw _ (List.mem_of_getElem? (i := 18) rfl))) (by decide) (backOf (W := 0) (rm_si6_3 l Z a0 hw [] a c cs kc x0 x1 x2 h0 n0 Z0 E Fv Fc ga S0 hcs O VA nca hp0 hp1 hp2) hZ (hw _ (List.mem_of_getElem? (i := 18) rfl)) (hw _ (List.mem_of_getElem? (i := 10) rfl)) (by decide) (by decide)) (g := (mkF mt 6 #[.val (.ref a), .val (.ref c)] [.null, (.int (3 : Int32)), (.int (0 : Int32)), (.ref c), (.ref a)])) rfl (by rw [hml]; rfl) (Steps.refl _) (a := a) (argsL := [(.ref c), (.int (0 : Int32)), (.int (3 : Int32)), .null]) (rest := []) (lenOf pd_1 rfl) rfl (by show 2 * 0 + _ ≤ _; exact Nat.le_of_eq rfl) (hb hby d_jdk_42_method_3_6) (fun _ _ => ⟨rfl, e0, (by decide : 0 + 1 ≤ _), (by decide : 0 + 3 ≤ _)⟩)
  dsimp only [Pt.U, Pt.locs, Pt.cells, Pt.slots] at X223 l223 y223 z223 st223 hQ223
  subst y223 z223
  replace X223 : Stand p l e _ s mt args below meth cd T223 L223 1 3 := X223
  obtain ⟨h223, e223⟩ : ∃ z, T223.heap = z := ⟨_, rfl⟩
  rw [e223] at hQ223
  obtain ⟨rfl, Nq223, K223, fc223, tt, kt, gt223, zt223, fv223, V223⟩ := hQ223
  have N223 : Fr n0 L223 := by rw [l223]; exact Fr.app N0 Nq223
  have f224_20 := O.keep K223 (allS ga all0)
  have f224_21 := E.keep K223
  have f224_22 := VA.keep K223 (ninS nca nin0)
  have Z225 : n0 ≤ h223.size := Nat.le_trans Z0 K223.1
  have K226 : Keep h0 h223 [a] := Keep.trans (Keep.refl h0 [a]) K223 (allS (Or.inl (List.mem_of_getElem? (i := 0) rfl)) all0)
  refine Win.tr ?_ st223
  show Win p e below _ T223 (mkF mt 9 #[.val (.ref a), .val (.ref c)] [])
  exact Win.retV X223 hx hlk e223 hrt (hb hby d_jdk_42_method_3_9) (by decide) (by decide) ⟨rfl, N223, K226, fc223, tt, kt, gt223, zt223, fv223, V223⟩
theorem d_method_4_59 : decode method_4_code 59 = .ok (.iload_n 0, 1) := by decide +kernel
theorem d_method_4_60 : decode method_4_code 60 = .ok (.iconst 3, 1) := by decide +kernel
theorem d_method_4_61 : decode method_4_code 61 = .ok (.if_icmp .ne 26, 3) := by decide +kernel
theorem d_method_4_64 : decode method_4_code 64 = .ok (.new 24, 3) := by decide +kernel
theorem d_method_4_67 : decode method_4_code 67 = .ok (.dup, 1) := by decide +kernel
theorem d_method_4_68 : decode method_4_code 68 = .ok (.iconst 3, 1) := by decide +kernel
theorem d_method_4_69 : decode method_4_code 69 = .ok (.newarray .char, 2) := by decide +kernel
theorem d_method_4_71 : decode method_4_code 71 = .ok (.dup, 1) := by decide +kernel
theorem d_method_4_72 : decode method_4_code 72 = .ok (.iconst 0, 1) := by decide +kernel
theorem d_method_4_73 : decode method_4_code 73 = .ok (.iload_n 1, 1) := by decide +kernel
theorem d_method_4_74 : decode method_4_code 74 = .ok (.castore, 1) := by decide +kernel
theorem d_method_4_75 : decode method_4_code 75 = .ok (.dup, 1) := by decide +kernel
theorem d_method_4_76 : decode method_4_code 76 = .ok (.iconst 1, 1) := by decide +kernel
theorem d_method_4_77 : decode method_4_code 77 = .ok (.iload_n 2, 1) := by decide +kernel
theorem d_method_4_78 : decode method_4_code 78 = .ok (.castore, 1) := by decide +kernel
theorem d_method_4_79 : decode method_4_code 79 = .ok (.dup, 1) := by decide +kernel
theorem d_method_4_80 : decode method_4_code 80 = .ok (.iconst 2, 1) := by decide +kernel
theorem d_method_4_81 : decode method_4_code 81 = .ok (.iload_n 3, 1) := by decide +kernel
theorem d_method_4_82 : decode method_4_code 82 = .ok (.castore, 1) := by decide +kernel
theorem d_method_4_83 : decode method_4_code 83 = .ok (.invokespecial 26, 3) := by decide +kernel
theorem d_method_4_86 : decode method_4_code 86 = .ok (.areturn, 1) := by decide +kernel
theorem ef_make_3 (mt : MethodId) (x0 : Int32) (x1 : Int32) (x2 : Int32) (x3 : Int32) : entryFrame mt #[(.int (3 : Int32)), (.int x0), (.int x1), (.int x2), (.int x3)] 5 = mkF mt 0 #[.val (.int (3 : Int32)), .val (.int x0), .val (.int x1), .val (.int x2), .val (.int x3)] [] := by first | (simp [entryFrame, mkF, argsToLocals, Value.category]; done) | rfl
def Q_make_3 (Z : State) (x0 : Int32) (x1 : Int32) (x2 : Int32) (x3 : Int32) (cs : Int32) (h0 : Heap) (n0 : Nat) (v : Option Value) (h : Heap) (L : List Loc) : Prop := ∃ r : Addr, v = some (.ref r) ∧ Fr n0 L ∧ n0 ≤ h.size ∧ Old Z n0 h ∧ ∃ (t : Addr) (k : ClassId), Exa Z h r "java/lang/String" ∧ Fld Z h r "java/lang/String" "value" "[B" (.ref t) ∧ Fld Z h r "java/lang/String" "coder" "B" (.int (0 : Int32)) ∧ Arv Z h t k .byte (3 : Int32) [(.int (x0.toInt8.toInt32)), (.int (x1.toInt8.toInt32)), (.int (x2.toInt8.toInt32))] (.int (0 : Int32))
set_option maxRecDepth 65536 in
set_option maxHeartbeats 40000000 in
theorem rm_make_3 (l : Launch) (Z : State) (a0 : Array Value) (hw : ∀ d ∈ tables_1, d.before a0 Z = true) (ws : List Jvm.Cond) (x0 : Int32) (x1 : Int32) (x2 : Int32) (x3 : Int32) (cs : Int32) (h0 : Heap) (n0 : Nat) (Z0 : n0 ≤ h0.size) (S0 : Sta Z Z.heap "java/lang/String" "COMPACT_STRINGS" "Z" (.int cs)) (hcs : ¬ cs = (0 : Int32)) (O : Old Z n0 h0) (hp0 : own_B x0) (hp1 : own_B x1) (hp2 : own_B x2) :
    MetFree l (⟨"com/example/foldkey/foldkey/store/TokenHoldsSystemPinLaw", "make", "(ICCCC)Ljava/lang/String;"⟩ : MethodName) (head1 (Jvm.Cond.code (⟨"com/example/foldkey/foldkey/store/TokenHoldsSystemPinLaw", "make", "(ICCCC)Ljava/lang/String;"⟩ : MethodName) method_4_code 5 (some (.object "java/lang/String")) :: ws) ({ frames := 4, cells := 3, slots := 10, locals := 66 } : Room)) (fun aa UU => aa = #[(.int (3 : Int32)), (.int x0), (.int x1), (.int x2), (.int x3)] ∧ Z.Warmed39 UU.vm ∧ UU.heap = h0) (fun _ _ _ _ _ => True) (fun _ UU oo UU' => ∃ vv LL, oo = .returned vv ∧ Q_make_3 Z x0 x1 x2 x3 cs h0 n0 vv UU'.heap LL ∧ FrameEnd UU oo UU' LL ({ frames := 4, cells := 3, slots := 10, locals := 66 } : Room).cells ({ frames := 4, cells := 3, slots := 10, locals := 66 } : Room).slots) := by
  refine MetFree.of_bodySF (plainFor_of_name pn_2) hisR ?_
  intro p e s mt args below meth cd s₁ Bd hml0 hP hK
  obtain ⟨hA, hZ, hh⟩ := hP
  have hx := Bd.exec
  have hby := Bd.bytes
  have hml : cd.maxLocals = 5 := hml0
  have hown : s.vm.findClass "com/example/foldkey/foldkey/store/TokenHoldsSystemPinLaw" = some mt.cls := findClass_of_methodNamed Bd.named
  have hnm := (name_of_methodNamed Bd.named Bd.method).1
  have hlk : meth.locks = false := BodyLoose.notSynchronized Bd
  have hrt := Bd.returns
  have X0 : Stand p l e ({ frames := 4, cells := 3, slots := 10, locals := 66 } : Room) s mt args below meth cd s₁ [] 0 0 := Stand.of_body Bd
  have e0 : s₁.heap = h0 := by rw [← hh, Bd.state]; rfl
  have N0 := Fr.nil n0
  show Win p e below (Ends s (Q_make_3 Z x0 x1 x2 x3 cs h0 n0) ({ frames := 4, cells := 3, slots := 10, locals := 66 } : Room).cells ({ frames := 4, cells := 3, slots := 10, locals := 66 } : Room).slots) s₁ (entryFrame mt args 5)
  rw [hA, ef_make_3]
  refine Win.st ?_ (fun tq kq => XS.iloadN X0.here hx rfl (hb hby d_method_4_0) rfl kq)
  show Win p e below _ s₁ (mkF mt 1 #[.val (.int (3 : Int32)), .val (.int x0), .val (.int x1), .val (.int x2), .val (.int x3)] [(.int (3 : Int32))])
  refine Win.st ?_ (fun tq kq => XS.ifYes X0.here hx rfl (pc0 := 1) (pc' := 15) rfl (hb hby d_method_4_1) rfl ((if0 _ _).trans (feq (by decide : ¬ ((3 : Int32) = (0 : Int32)))).2) (by decide) (by decide) kq)
  show Win p e below _ s₁ (mkF mt 15 #[.val (.int (3 : Int32)), .val (.int x0), .val (.int x1), .val (.int x2), .val (.int x3)] [])
  refine Win.st ?_ (fun tq kq => XS.iloadN X0.here hx rfl (hb hby d_method_4_15) rfl kq)
  show Win p e below _ s₁ (mkF mt 16 #[.val (.int (3 : Int32)), .val (.int x0), .val (.int x1), .val (.int x2), .val (.int x3)] [(.int (3 : Int32))])
  refine Win.st ?_ (fun tq kq => XS.iconst X0.here hx rfl (hb hby d_method_4_16) kq)
  show Win p e below _ s₁ (mkF mt 17 #[.val (.int (3 : Int32)), .val (.int x0), .val (.int x1), .val (.int x2), .val (.int x3)] [(.int (1 : Int32)), (.int (3 : Int32))])
  refine Win.st ?_ (fun tq kq => XS.icmpYes X0.here hx rfl (pc0 := 17) (pc' := 35) rfl (hb hby d_method_4_17) rfl (feq (by decide : ¬ ((3 : Int32) = (1 : Int32)))).2 (by decide) (by decide) kq)
  show Win p e below _ s₁ (mkF mt 35 #[.val (.int (3 : Int32)), .val (.int x0), .val (.int x1), .val (.int x2), .val (.int x3)] [])
  refine Win.st ?_ (fun tq kq => XS.iloadN X0.here hx rfl (hb hby d_method_4_35) rfl kq)
  show Win p e below _ s₁ (mkF mt 36 #[.val (.int (3 : Int32)), .val (.int x0), .val (.int x1), .val (.int x2), .val (.int x3)] [(.int (3 : Int32))])
  refine Win.st ?_ (fun tq kq => XS.iconst X0.here hx rfl (hb hby d_method_4_36) kq)
  show Win p e below _ s₁ (mkF mt 37 #[.val (.int (3 : Int32)), .val (.int x0), .val (.int x1), .val (.int x2), .val (.int x3)] [(.int (2 : Int32)), (.int (3 : Int32))])
  refine Win.st ?_ (fun tq kq => XS.icmpYes X0.here hx rfl (pc0 := 37) (pc' := 59) rfl (hb hby d_method_4_37) rfl (feq (by decide : ¬ ((3 : Int32) = (2 : Int32)))).2 (by decide) (by decide) kq)
  show Win p e below _ s₁ (mkF mt 59 #[.val (.int (3 : Int32)), .val (.int x0), .val (.int x1), .val (.int x2), .val (.int x3)] [])
  refine Win.st ?_ (fun tq kq => XS.iloadN X0.here hx rfl (hb hby d_method_4_59) rfl kq)
  show Win p e below _ s₁ (mkF mt 60 #[.val (.int (3 : Int32)), .val (.int x0), .val (.int x1), .val (.int x2), .val (.int x3)] [(.int (3 : Int32))])
  refine Win.st ?_ (fun tq kq => XS.iconst X0.here hx rfl (hb hby d_method_4_60) kq)
  show Win p e below _ s₁ (mkF mt 61 #[.val (.int (3 : Int32)), .val (.int x0), .val (.int x1), .val (.int x2), .val (.int x3)] [(.int (3 : Int32)), (.int (3 : Int32))])
  refine Win.st ?_ (fun tq kq => XS.icmpNo X0.here hx rfl (hb hby d_method_4_61) rfl (teq (rfl : (3 : Int32) = (3 : Int32))).2 kq)
  show Win p e below _ s₁ (mkF mt 64 #[.val (.int (3 : Int32)), .val (.int x0), .val (.int x1), .val (.int x2), .val (.int x3)] [])
  obtain ⟨T227, h227, X227, e227, E227, A227, D227, -, st227⟩ := newO X0 hx hZ hown (hw _ (List.mem_of_getElem? (i := 8) rfl)) (hw _ (List.mem_of_getElem? (i := 9) rfl)) (hw _ (List.mem_of_getElem? (i := 10) rfl)) e0 (g := (mkF mt 64 #[.val (.int (3 : Int32)), .val (.int x0), .val (.int x1), .val (.int x2), .val (.int x3)] [])) rfl (hb hby d_method_4_64) (by decide) (by decide)
  obtain ⟨b227, gq227⟩ : ∃ z, z = h0.size := ⟨_, rfl⟩
  rw [← gq227] at A227 D227 st227
  have g228 : n0 ≤ b227 := own_newle Z0 gq227
  have ke227 := own_kext E227
  replace X227 : Stand p l e _ s mt args below meth cd T227 _ 1 4 := X227
  have f229_28 := O.keep ke227 all0
  have Z230 : n0 ≤ h227.size := Nat.le_trans Z0 ke227.1
  have fn227_value : Fld Z h227 b227 "java/lang/String" "value" "[B" .null := D227 (Or.inr (hw _ (List.mem_of_getElem? (i := 24) rfl))) (ty := (.array .byte)) (by decide)
  have fn227_coder : Fld Z h227 b227 "java/lang/String" "coder" "B" (.int (0 : Int32)) := D227 (Or.inr (hw _ (List.mem_of_getElem? (i := 25) rfl))) (ty := .byte) (by decide)
  refine Win.st ?_ st227
  show Win p e below _ T227 (mkF mt 67 #[.val (.int (3 : Int32)), .val (.int x0), .val (.int x1), .val (.int x2), .val (.int x3)] [(.ref b227)])
  refine Win.st ?_ (fun tq kq => XS.dup X227.here hx rfl (hb hby d_method_4_67) rfl rfl kq)
  show Win p e below _ T227 (mkF mt 68 #[.val (.int (3 : Int32)), .val (.int x0), .val (.int x1), .val (.int x2), .val (.int x3)] [(.ref b227), (.ref b227)])
  refine Win.st ?_ (fun tq kq => XS.iconst X227.here hx rfl (hb hby d_method_4_68) kq)
  show Win p e below _ T227 (mkF mt 69 #[.val (.int (3 : Int32)), .val (.int x0), .val (.int x1), .val (.int x2), .val (.int x3)] [(.int (3 : Int32)), (.ref b227), (.ref b227)])
  obtain ⟨T231, h231, k231, X231, e231, E231, A231, st231⟩ := newP X227 hx hZ (hw _ (List.mem_of_getElem? (i := 11) rfl)) e227 (g := (mkF mt 69 #[.val (.int (3 : Int32)), .val (.int x0), .val (.int x1), .val (.int x2), .val (.int x3)] [(.int (3 : Int32)), (.ref b227), (.ref b227)])) rfl (hb hby d_method_4_69) rfl (by decide) (cap := 3) (by decide) (by decide) (by decide) (by decide)
  obtain ⟨b231, gq231⟩ : ∃ z, z = h227.size := ⟨_, rfl⟩
  rw [← gq231] at A231 st231
  have ne232 : b227 ≠ b231 := own_new gq231 A227.lt
  have g233 : n0 ≤ b231 := own_newle Z230 gq231
  have ke231 := own_kext E231
  replace X231 : Stand p l e _ s mt args below meth cd T231 _ 2 7 := X231
  have f234_45 := f229_28.keep ke231 all0
  have f234_46 := A227.keep ke231
  have f234_47 := fn227_value.keep ke231 nin0
  have f234_48 := fn227_coder.keep ke231 nin0
  have Z235 : n0 ≤ h231.size := Nat.le_trans Z230 ke231.1
  have V231 : Arv Z h231 b231 k231 .char (3 : Int32) [(.int (0 : Int32)), (.int (0 : Int32)), (.int (0 : Int32))] (.int (0 : Int32)) := (Arv.new A231 (by decide)).pad (pad_rep [] (.int (0 : Int32)) 3)
  refine Win.st ?_ st231
  show Win p e below _ T231 (mkF mt 71 #[.val (.int (3 : Int32)), .val (.int x0), .val (.int x1), .val (.int x2), .val (.int x3)] [(.ref b231), (.ref b227), (.ref b227)])
  refine Win.st ?_ (fun tq kq => XS.dup X231.here hx rfl (hb hby d_method_4_71) rfl rfl kq)
  show Win p e below _ T231 (mkF mt 72 #[.val (.int (3 : Int32)), .val (.int x0), .val (.int x1), .val (.int x2), .val (.int x3)] [(.ref b231), (.ref b231), (.ref b227), (.ref b227)])
  refine Win.st ?_ (fun tq kq => XS.iconst X231.here hx rfl (hb hby d_method_4_72) kq)
  show Win p e below _ T231 (mkF mt 73 #[.val (.int (3 : Int32)), .val (.int x0), .val (.int x1), .val (.int x2), .val (.int x3)] [(.int (0 : Int32)), (.ref b231), (.ref b231), (.ref b227), (.ref b227)])
  refine Win.st ?_ (fun tq kq => XS.iloadN X231.here hx rfl (hb hby d_method_4_73) rfl kq)
  show Win p e below _ T231 (mkF mt 74 #[.val (.int (3 : Int32)), .val (.int x0), .val (.int x1), .val (.int x2), .val (.int x3)] [(.int x0), (.int (0 : Int32)), (.ref b231), (.ref b231), (.ref b227), (.ref b227)])
  obtain ⟨T236, h236, L236, X236, N236, e236, kp236, V236, st236⟩ := own_cast (g := (mkF mt 74 #[.val (.int (3 : Int32)), .val (.int x0), .val (.int x1), .val (.int x2), .val (.int x3)] [(.int x0), (.int (0 : Int32)), (.ref b231), (.ref b231), (.ref b227), (.ref b227)])) X231 hx hZ e231 N0 g233 V231 (j := (0 : Int32)) (by decide) (by decide) (i := 0) rfl (by simp) rfl rfl (hb hby d_method_4_74)
  rw [own_char hp0] at V236
  replace V236 : Arv Z h236 b231 k231 .char (3 : Int32) ([(.int x0), (.int (0 : Int32)), (.int (0 : Int32))]) (.int (0 : Int32)) := V236
  have f237_62 := f234_45.keep kp236 (allS g233 all0)
  have f237_63 := f234_46.keep kp236
  have f237_64 := f234_47.keep kp236 (ninS ne232 nin0)
  have f237_65 := f234_48.keep kp236 (ninS ne232 nin0)
  have Z238 : n0 ≤ h236.size := Nat.le_trans Z235 kp236.1
  refine Win.st ?_ st236
  show Win p e below _ T236 (mkF mt 75 #[.val (.int (3 : Int32)), .val (.int x0), .val (.int x1), .val (.int x2), .val (.int x3)] [(.ref b231), (.ref b227), (.ref b227)])
  refine Win.st ?_ (fun tq kq => XS.dup X236.here hx rfl (hb hby d_method_4_75) rfl rfl kq)
  show Win p e below _ T236 (mkF mt 76 #[.val (.int (3 : Int32)), .val (.int x0), .val (.int x1), .val (.int x2), .val (.int x3)] [(.ref b231), (.ref b231), (.ref b227), (.ref b227)])
  refine Win.st ?_ (fun tq kq => XS.iconst X236.here hx rfl (hb hby d_method_4_76) kq)
  show Win p e below _ T236 (mkF mt 77 #[.val (.int (3 : Int32)), .val (.int x0), .val (.int x1), .val (.int x2), .val (.int x3)] [(.int (1 : Int32)), (.ref b231), (.ref b231), (.ref b227), (.ref b227)])
  refine Win.st ?_ (fun tq kq => XS.iloadN X236.here hx rfl (hb hby d_method_4_77) rfl kq)
  show Win p e below _ T236 (mkF mt 78 #[.val (.int (3 : Int32)), .val (.int x0), .val (.int x1), .val (.int x2), .val (.int x3)] [(.int x1), (.int (1 : Int32)), (.ref b231), (.ref b231), (.ref b227), (.ref b227)])
  obtain ⟨T239, h239, L239, X239, N239, e239, kp239, V239, st239⟩ := own_cast (g := (mkF mt 78 #[.val (.int (3 : Int32)), .val (.int x0), .val (.int x1), .val (.int x2), .val (.int x3)] [(.int x1), (.int (1 : Int32)), (.ref b231), (.ref b231), (.ref b227), (.ref b227)])) X236 hx hZ e236 N236 g233 V236 (j := (1 : Int32)) (by decide) (by decide) (i := 1) rfl (by simp) rfl rfl (hb hby d_method_4_78)
  rw [own_char hp1] at V239
  replace V239 : Arv Z h239 b231 k231 .char (3 : Int32) ([(.int x0), (.int x1), (.int (0 : Int32))]) (.int (0 : Int32)) := V239
  have f240_78 := f237_62.keep kp239 (allS g233 all0)
  have f240_79 := f237_63.keep kp239
  have f240_80 := f237_64.keep kp239 (ninS ne232 nin0)
  have f240_81 := f237_65.keep kp239 (ninS ne232 nin0)
  have Z241 : n0 ≤ h239.size := Nat.le_trans Z238 kp239.1
  refine Win.st ?_ st239
  show Win p e below _ T239 (mkF mt 79 #[.val (.int (3 : Int32)), .val (.int x0), .val (.int x1), .val (.int x2), .val (.int x3)] [(.ref b231), (.ref b227), (.ref b227)])
  refine Win.st ?_ (fun tq kq => XS.dup X239.here hx rfl (hb hby d_method_4_79) rfl rfl kq)
  show Win p e below _ T239 (mkF mt 80 #[.val (.int (3 : Int32)), .val (.int x0), .val (.int x1), .val (.int x2), .val (.int x3)] [(.ref b231), (.ref b231), (.ref b227), (.ref b227)])
  refine Win.st ?_ (fun tq kq => XS.iconst X239.here hx rfl (hb hby d_method_4_80) kq)
  show Win p e below _ T239 (mkF mt 81 #[.val (.int (3 : Int32)), .val (.int x0), .val (.int x1), .val (.int x2), .val (.int x3)] [(.int (2 : Int32)), (.ref b231), (.ref b231), (.ref b227), (.ref b227)])
  refine Win.st ?_ (fun tq kq => XS.iloadN X239.here hx rfl (hb hby d_method_4_81) rfl kq)
  show Win p e below _ T239 (mkF mt 82 #[.val (.int (3 : Int32)), .val (.int x0), .val (.int x1), .val (.int x2), .val (.int x3)] [(.int x2), (.int (2 : Int32)), (.ref b231), (.ref b231), (.ref b227), (.ref b227)])
  obtain ⟨T242, h242, L242, X242, N242, e242, kp242, V242, st242⟩ := own_cast (g := (mkF mt 82 #[.val (.int (3 : Int32)), .val (.int x0), .val (.int x1), .val (.int x2), .val (.int x3)] [(.int x2), (.int (2 : Int32)), (.ref b231), (.ref b231), (.ref b227), (.ref b227)])) X239 hx hZ e239 N239 g233 V239 (j := (2 : Int32)) (by decide) (by decide) (i := 2) rfl (by simp) rfl rfl (hb hby d_method_4_82)
  rw [own_char hp2] at V242
  replace V242 : Arv Z h242 b231 k231 .char (3 : Int32) ([(.int x0), (.int x1), (.int x2)]) (.int (0 : Int32)) := V242
  have f243_94 := f240_78.keep kp242 (allS g233 all0)
  have f243_95 := f240_79.keep kp242
  have f243_96 := f240_80.keep kp242 (ninS ne232 nin0)
  have f243_97 := f240_81.keep kp242 (ninS ne232 nin0)
  have Z244 : n0 ≤ h242.size := Nat.le_trans Z241 kp242.1
  refine Win.st ?_ st242
  show Win p e below _ T242 (mkF mt 83 #[.val (.int (3 : Int32)), .val (.int x0), .val (.int x1), .val (.int x2), .val (.int x3)] [(.ref b231), (.ref b227), (.ref b227)])
  obtain ⟨v245, _, ⟨T245, L245, k245, n245⟩, -, X245, ⟨Lc245, hQ245, l245, y245, z245⟩, st245⟩ := X242.specialBack hx (y := (⟨"java/lang/String", "<init>", "([C)V"⟩ : MethodName)) rfl hown (mvT hZ (hw _ (List.mem_of_getElem? (i := 12) rfl))) (mvT hZ (hw _ (List.mem_of_getElem? (i := 13) rfl))) (mvT hZ (hw _ (List.mem_of_getElem? (i := 14) rfl))) (by decide) (backOf (W := 1) (rm_si3_3 l Z a0 hw [] b227 b231 cs k231 x0 x1 x2 h242 n0 Z244 f243_95 f243_96 f243_97 g228 S0 hcs f243_94 V242 (Ne.symm ne232) hp0 hp1 hp2) hZ (hw _ (List.mem_of_getElem? (i := 14) rfl)) (hw _ (List.mem_of_getElem? (i := 10) rfl)) (by decide) (by decide)) (g := (mkF mt 83 #[.val (.int (3 : Int32)), .val (.int x0), .val (.int x1), .val (.int x2), .val (.int x3)] [(.ref b231), (.ref b227), (.ref b227)])) rfl (by rw [hml]; rfl) (Steps.refl _) (a := b227) (argsL := [(.ref b231)]) (rest := [(.ref b227)]) (lenOf pd_2 rfl) rfl (by show 2 * 0 + _ ≤ _; exact Nat.le_of_eq rfl) (hb hby d_method_4_83) (fun _ _ => ⟨rfl, e242, (by decide : 2 + 1 ≤ _), (by decide : 7 + 3 ≤ _)⟩)
  dsimp only [Pt.U, Pt.locs, Pt.cells, Pt.slots] at X245 l245 y245 z245 st245 hQ245
  subst y245 z245
  replace X245 : Stand p l e _ s mt args below meth cd T245 L245 3 10 := X245
  obtain ⟨h245, e245⟩ : ∃ z, T245.heap = z := ⟨_, rfl⟩
  rw [e245] at hQ245
  obtain ⟨rfl, Nq245, K245, fc245, tt, kt, gt245, zt245, fv245, V245⟩ := hQ245
  have N245 : Fr n0 L245 := by rw [l245]; exact Fr.app N242 Nq245
  have f246_109 := f243_94.keep K245 (allS g228 all0)
  have f246_110 := f243_95.keep K245
  have f246_111 := V242.keep K245 (ninS (Ne.symm ne232) nin0)
  have Z247 : n0 ≤ h245.size := Nat.le_trans Z244 K245.1
  refine Win.tr ?_ st245
  show Win p e below _ T245 (mkF mt 86 #[.val (.int (3 : Int32)), .val (.int x0), .val (.int x1), .val (.int x2), .val (.int x3)] [(.ref b227)])
  exact Win.ret X245 hx hlk e245 hrt rfl (Or.inr (Or.inr (Or.inr (Or.inr ⟨rfl, rfl, rfl⟩)))) (hb hby d_method_4_86) (by decide) (by decide) ⟨_, rfl, N245, Z247, f246_109, tt, kt, f246_110, fv245, fc245, V245⟩
theorem ef_ioc_3 (mt : MethodId) (b : Addr) : entryFrame mt #[(.ref b), (.int (124 : Int32)), (.int (0 : Int32)), (.int (3 : Int32))] 6 = mkF mt 0 #[.val (.ref b), .val (.int (124 : Int32)), .val (.int (0 : Int32)), .val (.int (3 : Int32)), .unset, .unset] [] := by first | (simp [entryFrame, mkF, argsToLocals, Value.category]; done) | rfl
def Q_ioc_3 (Z : State) (b : Addr) (kb : ClassId) (x0 : Int32) (x1 : Int32) (x2 : Int32) (h0 : Heap) (n0 : Nat) (v : Option Value) (h : Heap) (L : List Loc) : Prop := ∃ r : Int32, v = some (.int r) ∧ Fr n0 L ∧ h = h0 ∧ (r < 0 ↔ (¬ (x0 = (124 : Int32)) ∧ ¬ (x1 = (124 : Int32)) ∧ ¬ (x2 = (124 : Int32))))
set_option maxRecDepth 65536 in
set_option maxHeartbeats 40000000 in
theorem rm_ioc_3 (l : Launch) (Z : State) (a0 : Array Value) (hw : ∀ d ∈ tables_1, d.before a0 Z = true) (ws : List Jvm.Cond) (b : Addr) (kb : ClassId) (x0 : Int32) (x1 : Int32) (x2 : Int32) (h0 : Heap) (n0 : Nat) (Z0 : n0 ≤ h0.size) (VB : Arv Z h0 b kb .byte (3 : Int32) [(.int (x0.toInt8.toInt32)), (.int (x1.toInt8.toInt32)), (.int (x2.toInt8.toInt32))] (.int (0 : Int32))) (hp0 : own_B x0) (hp1 : own_B x1) (hp2 : own_B x2) :
    MetFree l (⟨"java/lang/StringLatin1", "indexOfChar", "([BIII)I"⟩ : MethodName) (head1 (Jvm.Cond.code (⟨"java/lang/StringLatin1", "indexOfChar", "([BIII)I"⟩ : MethodName) jdk_43_method_23_code 6 (some .int) :: ws) ({ frames := 0, cells := 0, slots := 0, locals := 0 } : Room)) (fun aa UU => aa = #[(.ref b), (.int (124 : Int32)), (.int (0 : Int32)), (.int (3 : Int32))] ∧ Z.Warmed39 UU.vm ∧ UU.heap = h0) (fun _ _ _ _ _ => True) (fun _ UU oo UU' => ∃ vv LL, oo = .returned vv ∧ Q_ioc_3 Z b kb x0 x1 x2 h0 n0 vv UU'.heap LL ∧ FrameEnd UU oo UU' LL ({ frames := 0, cells := 0, slots := 0, locals := 0 } : Room).cells ({ frames := 0, cells := 0, slots := 0, locals := 0 } : Room).slots) := by
  refine MetFree.of_bodySF (plainFor_of_name pn_0) hisR ?_
  intro p e s mt args below meth cd s₁ Bd hml0 hP hK
  obtain ⟨hA, hZ, hh⟩ := hP
  have hx := Bd.exec
  have hby := Bd.bytes
  have hml : cd.maxLocals = 6 := hml0
  have hown : s.vm.findClass "java/lang/StringLatin1" = some mt.cls := findClass_of_methodNamed Bd.named
  have hnm := (name_of_methodNamed Bd.named Bd.method).1
  have hlk : meth.locks = false := BodyLoose.notSynchronized Bd
  have hrt := Bd.returns
  have X0 : Stand p l e ({ frames := 0, cells := 0, slots := 0, locals := 0 } : Room) s mt args below meth cd s₁ [] 0 0 := Stand.of_body Bd
  have e0 : s₁.heap = h0 := by rw [← hh, Bd.state]; rfl
  have N0 := Fr.nil n0
  show Win p e below (Ends s (Q_ioc_3 Z b kb x0 x1 x2 h0 n0) ({ frames := 0, cells := 0, slots := 0, locals := 0 } : Room).cells ({ frames := 0, cells := 0, slots := 0, locals := 0 } : Room).slots) s₁ (entryFrame mt args 6)
  rw [hA, ef_ioc_3]
  refine Win.st ?_ (fun tq kq => XS.iloadN X0.here hx rfl (hb hby d_jdk_43_method_23_0) rfl kq)
  show Win p e below _ s₁ (mkF mt 1 #[.val (.ref b), .val (.int (124 : Int32)), .val (.int (0 : Int32)), .val (.int (3 : Int32)), .unset, .unset] [(.int (124 : Int32))])
  refine Win.st ?_ (fun tq kq => XS.i2b X0.here hx rfl (hb hby d_jdk_43_method_23_1) rfl kq)
  show Win p e below _ s₁ (mkF mt 2 #[.val (.ref b), .val (.int (124 : Int32)), .val (.int (0 : Int32)), .val (.int (3 : Int32)), .unset, .unset] [(.int ((124 : Int32).toInt8.toInt32))])
  rw [show ((124 : Int32).toInt8.toInt32) = (124 : Int32) from by decide]
  show Win p e below _ s₁ (mkF mt 2 #[.val (.ref b), .val (.int (124 : Int32)), .val (.int (0 : Int32)), .val (.int (3 : Int32)), .unset, .unset] [(.int (124 : Int32))])
  refine Win.st ?_ (fun tq kq => XS.istore X0.here hx rfl (hb hby d_jdk_43_method_23_2) rfl (l' := #[.val (.ref b), .val (.int (124 : Int32)), .val (.int (0 : Int32)), .val (.int (3 : Int32)), .val (.int (124 : Int32)), .unset]) rfl kq)
  show Win p e below _ s₁ (mkF mt 4 #[.val (.ref b), .val (.int (124 : Int32)), .val (.int (0 : Int32)), .val (.int (3 : Int32)), .val (.int (124 : Int32)), .unset] [])
  refine Win.st ?_ (fun tq kq => XS.iloadN X0.here hx rfl (hb hby d_jdk_43_method_23_4) rfl kq)
  show Win p e below _ s₁ (mkF mt 5 #[.val (.ref b), .val (.int (124 : Int32)), .val (.int (0 : Int32)), .val (.int (3 : Int32)), .val (.int (124 : Int32)), .unset] [(.int (0 : Int32))])
  refine Win.st ?_ (fun tq kq => XS.istore X0.here hx rfl (hb hby d_jdk_43_method_23_5) rfl (l' := #[.val (.ref b), .val (.int (124 : Int32)), .val (.int (0 : Int32)), .val (.int (3 : Int32)), .val (.int (124 : Int32)), .val (.int (0 : Int32))]) rfl kq)
  show Win p e below _ s₁ (mkF mt 7 #[.val (.ref b), .val (.int (124 : Int32)), .val (.int (0 : Int32)), .val (.int (3 : Int32)), .val (.int (124 : Int32)), .val (.int (0 : Int32))] [])
  refine Win.st ?_ (fun tq kq => XS.iload X0.here hx rfl (hb hby d_jdk_43_method_23_7) rfl kq)
  show Win p e below _ s₁ (mkF mt 9 #[.val (.ref b), .val (.int (124 : Int32)), .val (.int (0 : Int32)), .val (.int (3 : Int32)), .val (.int (124 : Int32)), .val (.int (0 : Int32))] [(.int (0 : Int32))])
  refine Win.st ?_ (fun tq kq => XS.iloadN X0.here hx rfl (hb hby d_jdk_43_method_23_9) rfl kq)
  show Win p e below _ s₁ (mkF mt 10 #[.val (.ref b), .val (.int (124 : Int32)), .val (.int (0 : Int32)), .val (.int (3 : Int32)), .val (.int (124 : Int32)), .val (.int (0 : Int32))] [(.int (3 : Int32)), (.int (0 : Int32))])
  refine Win.st ?_ (fun tq kq => XS.icmpNo X0.here hx rfl (hb hby d_jdk_43_method_23_10) rfl (tlt (by decide : (0 : Int32) < (3 : Int32))).2.1 kq)
  show Win p e below _ s₁ (mkF mt 13 #[.val (.ref b), .val (.int (124 : Int32)), .val (.int (0 : Int32)), .val (.int (3 : Int32)), .val (.int (124 : Int32)), .val (.int (0 : Int32))] [])
  refine Win.st ?_ (fun tq kq => XS.aloadN X0.here hx rfl (hb hby d_jdk_43_method_23_13) rfl rfl kq)
  show Win p e below _ s₁ (mkF mt 14 #[.val (.ref b), .val (.int (124 : Int32)), .val (.int (0 : Int32)), .val (.int (3 : Int32)), .val (.int (124 : Int32)), .val (.int (0 : Int32))] [(.ref b)])
  refine Win.st ?_ (fun tq kq => XS.iload X0.here hx rfl (hb hby d_jdk_43_method_23_14) rfl kq)
  show Win p e below _ s₁ (mkF mt 16 #[.val (.ref b), .val (.int (124 : Int32)), .val (.int (0 : Int32)), .val (.int (3 : Int32)), .val (.int (124 : Int32)), .val (.int (0 : Int32))] [(.int (0 : Int32)), (.ref b)])
  refine Win.st ?_ (own_bald (g := (mkF mt 16 #[.val (.ref b), .val (.int (124 : Int32)), .val (.int (0 : Int32)), .val (.int (3 : Int32)), .val (.int (124 : Int32)), .val (.int (0 : Int32))] [(.int (0 : Int32)), (.ref b)])) X0 hx hZ e0 VB (j := (0 : Int32)) (v := (.int (x0.toInt8.toInt32))) (by decide) (by decide) rfl rfl rfl (hb hby d_jdk_43_method_23_16))
  show Win p e below _ s₁ (mkF mt 17 #[.val (.ref b), .val (.int (124 : Int32)), .val (.int (0 : Int32)), .val (.int (3 : Int32)), .val (.int (124 : Int32)), .val (.int (0 : Int32))] [(.int (x0.toInt8.toInt32))])
  refine Win.st ?_ (fun tq kq => XS.iload X0.here hx rfl (hb hby d_jdk_43_method_23_17) rfl kq)
  show Win p e below _ s₁ (mkF mt 19 #[.val (.ref b), .val (.int (124 : Int32)), .val (.int (0 : Int32)), .val (.int (3 : Int32)), .val (.int (124 : Int32)), .val (.int (0 : Int32))] [(.int (124 : Int32)), (.int (x0.toInt8.toInt32))])
  by_cases hc19 : (x0.toInt8.toInt32) = (124 : Int32)
  · refine Win.st ?_ (fun tq kq => XS.icmpNo X0.here hx rfl (hb hby d_jdk_43_method_23_19) rfl (teq hc19).2 kq)
    show Win p e below _ s₁ (mkF mt 22 #[.val (.ref b), .val (.int (124 : Int32)), .val (.int (0 : Int32)), .val (.int (3 : Int32)), .val (.int (124 : Int32)), .val (.int (0 : Int32))] [])
    refine Win.st ?_ (fun tq kq => XS.iload X0.here hx rfl (hb hby d_jdk_43_method_23_22) rfl kq)
    show Win p e below _ s₁ (mkF mt 24 #[.val (.ref b), .val (.int (124 : Int32)), .val (.int (0 : Int32)), .val (.int (3 : Int32)), .val (.int (124 : Int32)), .val (.int (0 : Int32))] [(.int (0 : Int32))])
    exact Win.ret X0 hx hlk e0 hrt rfl (Or.inl ⟨rfl, Or.inl rfl, _, rfl⟩) (hb hby d_jdk_43_method_23_24) (by decide) (by decide) ⟨_, rfl, N0, rfl, ⟨fun q => absurd q (by decide), fun q => absurd (own_b124 hp0 hc19) (q.1)⟩⟩
  · refine Win.st ?_ (fun tq kq => XS.icmpYes X0.here hx rfl (pc0 := 19) (pc' := 25) rfl (hb hby d_jdk_43_method_23_19) rfl (feq hc19).2 (by decide) (by decide) kq)
    show Win p e below _ s₁ (mkF mt 25 #[.val (.ref b), .val (.int (124 : Int32)), .val (.int (0 : Int32)), .val (.int (3 : Int32)), .val (.int (124 : Int32)), .val (.int (0 : Int32))] [])
    refine Win.st ?_ (fun tq kq => XS.iinc X0.here hx rfl (hb hby d_jdk_43_method_23_25) rfl (l' := #[.val (.ref b), .val (.int (124 : Int32)), .val (.int (0 : Int32)), .val (.int (3 : Int32)), .val (.int (124 : Int32)), .val (.int (1 : Int32))]) rfl kq)
    show Win p e below _ s₁ (mkF mt 28 #[.val (.ref b), .val (.int (124 : Int32)), .val (.int (0 : Int32)), .val (.int (3 : Int32)), .val (.int (124 : Int32)), .val (.int (1 : Int32))] [])
    refine Win.st ?_ (fun tq kq => XS.goto X0.here hx rfl (pc0 := 28) (pc' := 7) rfl (hb hby d_jdk_43_method_23_28) (by decide) (by decide) kq)
    show Win p e below _ s₁ (mkF mt 7 #[.val (.ref b), .val (.int (124 : Int32)), .val (.int (0 : Int32)), .val (.int (3 : Int32)), .val (.int (124 : Int32)), .val (.int (1 : Int32))] [])
    refine Win.st ?_ (fun tq kq => XS.iload X0.here hx rfl (hb hby d_jdk_43_method_23_7) rfl kq)
    show Win p e below _ s₁ (mkF mt 9 #[.val (.ref b), .val (.int (124 : Int32)), .val (.int (0 : Int32)), .val (.int (3 : Int32)), .val (.int (124 : Int32)), .val (.int (1 : Int32))] [(.int (1 : Int32))])
    refine Win.st ?_ (fun tq kq => XS.iloadN X0.here hx rfl (hb hby d_jdk_43_method_23_9) rfl kq)
    show Win p e below _ s₁ (mkF mt 10 #[.val (.ref b), .val (.int (124 : Int32)), .val (.int (0 : Int32)), .val (.int (3 : Int32)), .val (.int (124 : Int32)), .val (.int (1 : Int32))] [(.int (3 : Int32)), (.int (1 : Int32))])
    refine Win.st ?_ (fun tq kq => XS.icmpNo X0.here hx rfl (hb hby d_jdk_43_method_23_10) rfl (tlt (by decide : (1 : Int32) < (3 : Int32))).2.1 kq)
    show Win p e below _ s₁ (mkF mt 13 #[.val (.ref b), .val (.int (124 : Int32)), .val (.int (0 : Int32)), .val (.int (3 : Int32)), .val (.int (124 : Int32)), .val (.int (1 : Int32))] [])
    refine Win.st ?_ (fun tq kq => XS.aloadN X0.here hx rfl (hb hby d_jdk_43_method_23_13) rfl rfl kq)
    show Win p e below _ s₁ (mkF mt 14 #[.val (.ref b), .val (.int (124 : Int32)), .val (.int (0 : Int32)), .val (.int (3 : Int32)), .val (.int (124 : Int32)), .val (.int (1 : Int32))] [(.ref b)])
    refine Win.st ?_ (fun tq kq => XS.iload X0.here hx rfl (hb hby d_jdk_43_method_23_14) rfl kq)
    show Win p e below _ s₁ (mkF mt 16 #[.val (.ref b), .val (.int (124 : Int32)), .val (.int (0 : Int32)), .val (.int (3 : Int32)), .val (.int (124 : Int32)), .val (.int (1 : Int32))] [(.int (1 : Int32)), (.ref b)])
    refine Win.st ?_ (own_bald (g := (mkF mt 16 #[.val (.ref b), .val (.int (124 : Int32)), .val (.int (0 : Int32)), .val (.int (3 : Int32)), .val (.int (124 : Int32)), .val (.int (1 : Int32))] [(.int (1 : Int32)), (.ref b)])) X0 hx hZ e0 VB (j := (1 : Int32)) (v := (.int (x1.toInt8.toInt32))) (by decide) (by decide) rfl rfl rfl (hb hby d_jdk_43_method_23_16))
    show Win p e below _ s₁ (mkF mt 17 #[.val (.ref b), .val (.int (124 : Int32)), .val (.int (0 : Int32)), .val (.int (3 : Int32)), .val (.int (124 : Int32)), .val (.int (1 : Int32))] [(.int (x1.toInt8.toInt32))])
    refine Win.st ?_ (fun tq kq => XS.iload X0.here hx rfl (hb hby d_jdk_43_method_23_17) rfl kq)
    show Win p e below _ s₁ (mkF mt 19 #[.val (.ref b), .val (.int (124 : Int32)), .val (.int (0 : Int32)), .val (.int (3 : Int32)), .val (.int (124 : Int32)), .val (.int (1 : Int32))] [(.int (124 : Int32)), (.int (x1.toInt8.toInt32))])
    by_cases hc19_248 : (x1.toInt8.toInt32) = (124 : Int32)
    · refine Win.st ?_ (fun tq kq => XS.icmpNo X0.here hx rfl (hb hby d_jdk_43_method_23_19) rfl (teq hc19_248).2 kq)
      show Win p e below _ s₁ (mkF mt 22 #[.val (.ref b), .val (.int (124 : Int32)), .val (.int (0 : Int32)), .val (.int (3 : Int32)), .val (.int (124 : Int32)), .val (.int (1 : Int32))] [])
      refine Win.st ?_ (fun tq kq => XS.iload X0.here hx rfl (hb hby d_jdk_43_method_23_22) rfl kq)
      show Win p e below _ s₁ (mkF mt 24 #[.val (.ref b), .val (.int (124 : Int32)), .val (.int (0 : Int32)), .val (.int (3 : Int32)), .val (.int (124 : Int32)), .val (.int (1 : Int32))] [(.int (1 : Int32))])
      exact Win.ret X0 hx hlk e0 hrt rfl (Or.inl ⟨rfl, Or.inl rfl, _, rfl⟩) (hb hby d_jdk_43_method_23_24) (by decide) (by decide) ⟨_, rfl, N0, rfl, ⟨fun q => absurd q (by decide), fun q => absurd (own_b124 hp1 hc19_248) (q.2.1)⟩⟩
    · refine Win.st ?_ (fun tq kq => XS.icmpYes X0.here hx rfl (pc0 := 19) (pc' := 25) rfl (hb hby d_jdk_43_method_23_19) rfl (feq hc19_248).2 (by decide) (by decide) kq)
      show Win p e below _ s₁ (mkF mt 25 #[.val (.ref b), .val (.int (124 : Int32)), .val (.int (0 : Int32)), .val (.int (3 : Int32)), .val (.int (124 : Int32)), .val (.int (1 : Int32))] [])
      refine Win.st ?_ (fun tq kq => XS.iinc X0.here hx rfl (hb hby d_jdk_43_method_23_25) rfl (l' := #[.val (.ref b), .val (.int (124 : Int32)), .val (.int (0 : Int32)), .val (.int (3 : Int32)), .val (.int (124 : Int32)), .val (.int (2 : Int32))]) rfl kq)
      show Win p e below _ s₁ (mkF mt 28 #[.val (.ref b), .val (.int (124 : Int32)), .val (.int (0 : Int32)), .val (.int (3 : Int32)), .val (.int (124 : Int32)), .val (.int (2 : Int32))] [])
      refine Win.st ?_ (fun tq kq => XS.goto X0.here hx rfl (pc0 := 28) (pc' := 7) rfl (hb hby d_jdk_43_method_23_28) (by decide) (by decide) kq)
      show Win p e below _ s₁ (mkF mt 7 #[.val (.ref b), .val (.int (124 : Int32)), .val (.int (0 : Int32)), .val (.int (3 : Int32)), .val (.int (124 : Int32)), .val (.int (2 : Int32))] [])
      refine Win.st ?_ (fun tq kq => XS.iload X0.here hx rfl (hb hby d_jdk_43_method_23_7) rfl kq)
      show Win p e below _ s₁ (mkF mt 9 #[.val (.ref b), .val (.int (124 : Int32)), .val (.int (0 : Int32)), .val (.int (3 : Int32)), .val (.int (124 : Int32)), .val (.int (2 : Int32))] [(.int (2 : Int32))])
      refine Win.st ?_ (fun tq kq => XS.iloadN X0.here hx rfl (hb hby d_jdk_43_method_23_9) rfl kq)
      show Win p e below _ s₁ (mkF mt 10 #[.val (.ref b), .val (.int (124 : Int32)), .val (.int (0 : Int32)), .val (.int (3 : Int32)), .val (.int (124 : Int32)), .val (.int (2 : Int32))] [(.int (3 : Int32)), (.int (2 : Int32))])
      refine Win.st ?_ (fun tq kq => XS.icmpNo X0.here hx rfl (hb hby d_jdk_43_method_23_10) rfl (tlt (by decide : (2 : Int32) < (3 : Int32))).2.1 kq)
      show Win p e below _ s₁ (mkF mt 13 #[.val (.ref b), .val (.int (124 : Int32)), .val (.int (0 : Int32)), .val (.int (3 : Int32)), .val (.int (124 : Int32)), .val (.int (2 : Int32))] [])
      refine Win.st ?_ (fun tq kq => XS.aloadN X0.here hx rfl (hb hby d_jdk_43_method_23_13) rfl rfl kq)
      show Win p e below _ s₁ (mkF mt 14 #[.val (.ref b), .val (.int (124 : Int32)), .val (.int (0 : Int32)), .val (.int (3 : Int32)), .val (.int (124 : Int32)), .val (.int (2 : Int32))] [(.ref b)])
      refine Win.st ?_ (fun tq kq => XS.iload X0.here hx rfl (hb hby d_jdk_43_method_23_14) rfl kq)
      show Win p e below _ s₁ (mkF mt 16 #[.val (.ref b), .val (.int (124 : Int32)), .val (.int (0 : Int32)), .val (.int (3 : Int32)), .val (.int (124 : Int32)), .val (.int (2 : Int32))] [(.int (2 : Int32)), (.ref b)])
      refine Win.st ?_ (own_bald (g := (mkF mt 16 #[.val (.ref b), .val (.int (124 : Int32)), .val (.int (0 : Int32)), .val (.int (3 : Int32)), .val (.int (124 : Int32)), .val (.int (2 : Int32))] [(.int (2 : Int32)), (.ref b)])) X0 hx hZ e0 VB (j := (2 : Int32)) (v := (.int (x2.toInt8.toInt32))) (by decide) (by decide) rfl rfl rfl (hb hby d_jdk_43_method_23_16))
      show Win p e below _ s₁ (mkF mt 17 #[.val (.ref b), .val (.int (124 : Int32)), .val (.int (0 : Int32)), .val (.int (3 : Int32)), .val (.int (124 : Int32)), .val (.int (2 : Int32))] [(.int (x2.toInt8.toInt32))])
      refine Win.st ?_ (fun tq kq => XS.iload X0.here hx rfl (hb hby d_jdk_43_method_23_17) rfl kq)
      show Win p e below _ s₁ (mkF mt 19 #[.val (.ref b), .val (.int (124 : Int32)), .val (.int (0 : Int32)), .val (.int (3 : Int32)), .val (.int (124 : Int32)), .val (.int (2 : Int32))] [(.int (124 : Int32)), (.int (x2.toInt8.toInt32))])
      by_cases hc19_249 : (x2.toInt8.toInt32) = (124 : Int32)
      · refine Win.st ?_ (fun tq kq => XS.icmpNo X0.here hx rfl (hb hby d_jdk_43_method_23_19) rfl (teq hc19_249).2 kq)
        show Win p e below _ s₁ (mkF mt 22 #[.val (.ref b), .val (.int (124 : Int32)), .val (.int (0 : Int32)), .val (.int (3 : Int32)), .val (.int (124 : Int32)), .val (.int (2 : Int32))] [])
        refine Win.st ?_ (fun tq kq => XS.iload X0.here hx rfl (hb hby d_jdk_43_method_23_22) rfl kq)
        show Win p e below _ s₁ (mkF mt 24 #[.val (.ref b), .val (.int (124 : Int32)), .val (.int (0 : Int32)), .val (.int (3 : Int32)), .val (.int (124 : Int32)), .val (.int (2 : Int32))] [(.int (2 : Int32))])
        exact Win.ret X0 hx hlk e0 hrt rfl (Or.inl ⟨rfl, Or.inl rfl, _, rfl⟩) (hb hby d_jdk_43_method_23_24) (by decide) (by decide) ⟨_, rfl, N0, rfl, ⟨fun q => absurd q (by decide), fun q => absurd (own_b124 hp2 hc19_249) (q.2.2)⟩⟩
      · refine Win.st ?_ (fun tq kq => XS.icmpYes X0.here hx rfl (pc0 := 19) (pc' := 25) rfl (hb hby d_jdk_43_method_23_19) rfl (feq hc19_249).2 (by decide) (by decide) kq)
        show Win p e below _ s₁ (mkF mt 25 #[.val (.ref b), .val (.int (124 : Int32)), .val (.int (0 : Int32)), .val (.int (3 : Int32)), .val (.int (124 : Int32)), .val (.int (2 : Int32))] [])
        refine Win.st ?_ (fun tq kq => XS.iinc X0.here hx rfl (hb hby d_jdk_43_method_23_25) rfl (l' := #[.val (.ref b), .val (.int (124 : Int32)), .val (.int (0 : Int32)), .val (.int (3 : Int32)), .val (.int (124 : Int32)), .val (.int (3 : Int32))]) rfl kq)
        show Win p e below _ s₁ (mkF mt 28 #[.val (.ref b), .val (.int (124 : Int32)), .val (.int (0 : Int32)), .val (.int (3 : Int32)), .val (.int (124 : Int32)), .val (.int (3 : Int32))] [])
        refine Win.st ?_ (fun tq kq => XS.goto X0.here hx rfl (pc0 := 28) (pc' := 7) rfl (hb hby d_jdk_43_method_23_28) (by decide) (by decide) kq)
        show Win p e below _ s₁ (mkF mt 7 #[.val (.ref b), .val (.int (124 : Int32)), .val (.int (0 : Int32)), .val (.int (3 : Int32)), .val (.int (124 : Int32)), .val (.int (3 : Int32))] [])
        refine Win.st ?_ (fun tq kq => XS.iload X0.here hx rfl (hb hby d_jdk_43_method_23_7) rfl kq)
        show Win p e below _ s₁ (mkF mt 9 #[.val (.ref b), .val (.int (124 : Int32)), .val (.int (0 : Int32)), .val (.int (3 : Int32)), .val (.int (124 : Int32)), .val (.int (3 : Int32))] [(.int (3 : Int32))])
        refine Win.st ?_ (fun tq kq => XS.iloadN X0.here hx rfl (hb hby d_jdk_43_method_23_9) rfl kq)
        show Win p e below _ s₁ (mkF mt 10 #[.val (.ref b), .val (.int (124 : Int32)), .val (.int (0 : Int32)), .val (.int (3 : Int32)), .val (.int (124 : Int32)), .val (.int (3 : Int32))] [(.int (3 : Int32)), (.int (3 : Int32))])
        refine Win.st ?_ (fun tq kq => XS.icmpYes X0.here hx rfl (pc0 := 10) (pc' := 31) rfl (hb hby d_jdk_43_method_23_10) rfl (flt (Int32.lt_irrefl)).2.1 (by decide) (by decide) kq)
        show Win p e below _ s₁ (mkF mt 31 #[.val (.ref b), .val (.int (124 : Int32)), .val (.int (0 : Int32)), .val (.int (3 : Int32)), .val (.int (124 : Int32)), .val (.int (3 : Int32))] [])
        refine Win.st ?_ (fun tq kq => XS.iconst X0.here hx rfl (hb hby d_jdk_43_method_23_31) kq)
        show Win p e below _ s₁ (mkF mt 32 #[.val (.ref b), .val (.int (124 : Int32)), .val (.int (0 : Int32)), .val (.int (3 : Int32)), .val (.int (124 : Int32)), .val (.int (3 : Int32))] [(.int (-1 : Int32))])
        exact Win.ret X0 hx hlk e0 hrt rfl (Or.inl ⟨rfl, Or.inl rfl, _, rfl⟩) (hb hby d_jdk_43_method_23_32) (by decide) (by decide) ⟨_, rfl, N0, rfl, ⟨fun _ => ⟨fun q => hc19 (by rw [q]; decide), fun q => hc19_248 (by rw [q]; decide), fun q => hc19_249 (by rw [q]; decide)⟩, fun _ => by decide⟩⟩
theorem ef_lio_3 (mt : MethodId) (b : Addr) : entryFrame mt #[(.ref b), (.int (124 : Int32)), (.int (0 : Int32)), (.int (3 : Int32))] 4 = mkF mt 0 #[.val (.ref b), .val (.int (124 : Int32)), .val (.int (0 : Int32)), .val (.int (3 : Int32))] [] := by first | (simp [entryFrame, mkF, argsToLocals, Value.category]; done) | rfl
def Q_lio_3 (Z : State) (b : Addr) (kb : ClassId) (x0 : Int32) (x1 : Int32) (x2 : Int32) (h0 : Heap) (n0 : Nat) (v : Option Value) (h : Heap) (L : List Loc) : Prop := ∃ r : Int32, v = some (.int r) ∧ Fr n0 L ∧ h = h0 ∧ (r < 0 ↔ (¬ (x0 = (124 : Int32)) ∧ ¬ (x1 = (124 : Int32)) ∧ ¬ (x2 = (124 : Int32))))
set_option maxRecDepth 65536 in
set_option maxHeartbeats 40000000 in
theorem rm_lio_3 (l : Launch) (Z : State) (a0 : Array Value) (hw : ∀ d ∈ tables_1, d.before a0 Z = true) (ws : List Jvm.Cond) (b : Addr) (kb : ClassId) (x0 : Int32) (x1 : Int32) (x2 : Int32) (h0 : Heap) (n0 : Nat) (Z0 : n0 ≤ h0.size) (VB : Arv Z h0 b kb .byte (3 : Int32) [(.int (x0.toInt8.toInt32)), (.int (x1.toInt8.toInt32)), (.int (x2.toInt8.toInt32))] (.int (0 : Int32))) (hp0 : own_B x0) (hp1 : own_B x1) (hp2 : own_B x2) :
    MetFree l (⟨"java/lang/StringLatin1", "indexOf", "([BIII)I"⟩ : MethodName) (head1 (Jvm.Cond.code (⟨"java/lang/StringLatin1", "indexOf", "([BIII)I"⟩ : MethodName) jdk_43_method_22_code 4 (some .int) :: ws) ({ frames := 1, cells := 0, slots := 0, locals := 17 } : Room)) (fun aa UU => aa = #[(.ref b), (.int (124 : Int32)), (.int (0 : Int32)), (.int (3 : Int32))] ∧ Z.Warmed39 UU.vm ∧ UU.heap = h0) (fun _ _ _ _ _ => True) (fun _ UU oo UU' => ∃ vv LL, oo = .returned vv ∧ Q_lio_3 Z b kb x0 x1 x2 h0 n0 vv UU'.heap LL ∧ FrameEnd UU oo UU' LL ({ frames := 1, cells := 0, slots := 0, locals := 17 } : Room).cells ({ frames := 1, cells := 0, slots := 0, locals := 17 } : Room).slots) := by
  refine MetFree.of_bodySF (plainFor_of_name pn_0) hisR ?_
  intro p e s mt args below meth cd s₁ Bd hml0 hP hK
  obtain ⟨hA, hZ, hh⟩ := hP
  have hx := Bd.exec
  have hby := Bd.bytes
  have hml : cd.maxLocals = 4 := hml0
  have hown : s.vm.findClass "java/lang/StringLatin1" = some mt.cls := findClass_of_methodNamed Bd.named
  have hnm := (name_of_methodNamed Bd.named Bd.method).1
  have hlk : meth.locks = false := BodyLoose.notSynchronized Bd
  have hrt := Bd.returns
  have X0 : Stand p l e ({ frames := 1, cells := 0, slots := 0, locals := 17 } : Room) s mt args below meth cd s₁ [] 0 0 := Stand.of_body Bd
  have e0 : s₁.heap = h0 := by rw [← hh, Bd.state]; rfl
  have N0 := Fr.nil n0
  show Win p e below (Ends s (Q_lio_3 Z b kb x0 x1 x2 h0 n0) ({ frames := 1, cells := 0, slots := 0, locals := 17 } : Room).cells ({ frames := 1, cells := 0, slots := 0, locals := 17 } : Room).slots) s₁ (entryFrame mt args 4)
  rw [hA, ef_lio_3]
  refine Win.st ?_ (fun tq kq => XS.iloadN X0.here hx rfl (hb hby d_jdk_43_method_22_0) rfl kq)
  show Win p e below _ s₁ (mkF mt 1 #[.val (.ref b), .val (.int (124 : Int32)), .val (.int (0 : Int32)), .val (.int (3 : Int32))] [(.int (124 : Int32))])
  obtain ⟨v250, _, ⟨T250, L250, k250, n250⟩, -, X250, ⟨Lc250, hQ250, l250, y250, z250⟩, st250⟩ := Jvm.LawKit.callS X0 hx (y := (⟨"java/lang/StringLatin1", "canEncode", "(I)Z"⟩ : MethodName)) hown (mvT hZ (hw _ (List.mem_of_getElem? (i := 64) rfl))) (mvT hZ (hw _ (List.mem_of_getElem? (i := 65) rfl))) (mvT hZ (hw _ (List.mem_of_getElem? (i := 62) rfl))) (mvT hZ (hw _ (List.mem_of_getElem? (i := 66) rfl))) (by decide) (backOf (W := 0) (rm_cei l Z a0 hw [] (124 : Int32) h0 n0 Z0 (by decide) (by decide)) hZ (hw _ (List.mem_of_getElem? (i := 66) rfl)) (hw _ (List.mem_of_getElem? (i := 62) rfl)) (by decide) (by decide)) (g := (mkF mt 1 #[.val (.ref b), .val (.int (124 : Int32)), .val (.int (0 : Int32)), .val (.int (3 : Int32))] [(.int (124 : Int32))])) rfl (by rw [hml]; rfl) (argsL := [(.int (124 : Int32))]) (rest := []) (lenOf pd_3 rfl) rfl (by show 2 * 0 + _ ≤ _; exact Nat.le_of_eq rfl) (hb hby d_jdk_43_method_22_1) (fun _ _ => ⟨rfl, e0, (by decide : 0 + 0 ≤ _), (by decide : 0 + 0 ≤ _)⟩)
  dsimp only [Pt.U, Pt.locs, Pt.cells, Pt.slots] at X250 l250 y250 z250 st250 hQ250
  subst y250 z250
  replace X250 : Stand p l e _ s mt args below meth cd T250 L250 0 0 := X250
  obtain ⟨h250, e250⟩ : ∃ z, T250.heap = z := ⟨_, rfl⟩
  rw [e250] at hQ250
  obtain ⟨rfl, Nq250, eh250⟩ := hQ250
  have N250 : Fr n0 L250 := by rw [l250]; exact Fr.app N0 Nq250
  rw [eh250] at e250
  refine Win.st ?_ st250
  show Win p e below _ T250 (mkF mt 4 #[.val (.ref b), .val (.int (124 : Int32)), .val (.int (0 : Int32)), .val (.int (3 : Int32))] [(.int (1 : Int32))])
  refine Win.st ?_ (fun tq kq => XS.ifYes X250.here hx rfl (pc0 := 4) (pc' := 9) rfl (hb hby d_jdk_43_method_22_4) rfl ((if0 _ _).trans (feq (by decide : ¬ ((1 : Int32) = (0 : Int32)))).2) (by decide) (by decide) kq)
  show Win p e below _ T250 (mkF mt 9 #[.val (.ref b), .val (.int (124 : Int32)), .val (.int (0 : Int32)), .val (.int (3 : Int32))] [])
  refine Win.st ?_ (fun tq kq => XS.iloadN X250.here hx rfl (hb hby d_jdk_43_method_22_9) rfl kq)
  show Win p e below _ T250 (mkF mt 10 #[.val (.ref b), .val (.int (124 : Int32)), .val (.int (0 : Int32)), .val (.int (3 : Int32))] [(.int (0 : Int32))])
  refine Win.st ?_ (fun tq kq => XS.iconst X250.here hx rfl (hb hby d_jdk_43_method_22_10) kq)
  show Win p e below _ T250 (mkF mt 11 #[.val (.ref b), .val (.int (124 : Int32)), .val (.int (0 : Int32)), .val (.int (3 : Int32))] [(.int (0 : Int32)), (.int (0 : Int32))])
  obtain ⟨v251, _, ⟨T251, L251, k251, n251⟩, -, X251, ⟨Lc251, hQ251, l251, y251, z251⟩, st251⟩ := Jvm.LawKit.callS X250 hx (y := (⟨"java/lang/Math", "max", "(II)I"⟩ : MethodName)) hown (mvT hZ (hw _ (List.mem_of_getElem? (i := 67) rfl))) (mvT hZ (hw _ (List.mem_of_getElem? (i := 68) rfl))) (mvT hZ (hw _ (List.mem_of_getElem? (i := 69) rfl))) (mvT hZ (hw _ (List.mem_of_getElem? (i := 70) rfl))) (by decide) (backOf (W := 0) (rm_max l Z a0 hw [] (0 : Int32) (0 : Int32) h0 n0 Z0 ) hZ (hw _ (List.mem_of_getElem? (i := 70) rfl)) (hw _ (List.mem_of_getElem? (i := 69) rfl)) (by decide) (by decide)) (g := (mkF mt 11 #[.val (.ref b), .val (.int (124 : Int32)), .val (.int (0 : Int32)), .val (.int (3 : Int32))] [(.int (0 : Int32)), (.int (0 : Int32))])) rfl (by rw [hml]; rfl) (argsL := [(.int (0 : Int32)), (.int (0 : Int32))]) (rest := []) (lenOf pd_4 rfl) rfl (by show 2 * 0 + _ ≤ _; exact Nat.le_of_eq rfl) (hb hby d_jdk_43_method_22_11) (fun _ _ => ⟨rfl, e250, (by decide : 0 + 0 ≤ _), (by decide : 0 + 0 ≤ _)⟩)
  dsimp only [Pt.U, Pt.locs, Pt.cells, Pt.slots] at X251 l251 y251 z251 st251 hQ251
  subst y251 z251
  replace X251 : Stand p l e _ s mt args below meth cd T251 L251 0 0 := X251
  obtain ⟨h251, e251⟩ : ∃ z, T251.heap = z := ⟨_, rfl⟩
  rw [e251] at hQ251
  obtain ⟨rfl, Nq251, eh251⟩ := hQ251
  have N251 : Fr n0 L251 := by rw [l251]; exact Fr.app N250 Nq251
  rw [eh251] at e251
  rw [show own_max (0 : Int32) (0 : Int32) = (0 : Int32) from by decide] at st251
  refine Win.st ?_ st251
  show Win p e below _ T251 (mkF mt 14 #[.val (.ref b), .val (.int (124 : Int32)), .val (.int (0 : Int32)), .val (.int (3 : Int32))] [(.int (0 : Int32))])
  refine Win.st ?_ (fun tq kq => XS.istoreN X251.here hx rfl (hb hby d_jdk_43_method_22_14) rfl (l' := #[.val (.ref b), .val (.int (124 : Int32)), .val (.int (0 : Int32)), .val (.int (3 : Int32))]) rfl kq)
  show Win p e below _ T251 (mkF mt 15 #[.val (.ref b), .val (.int (124 : Int32)), .val (.int (0 : Int32)), .val (.int (3 : Int32))] [])
  refine Win.st ?_ (fun tq kq => XS.iloadN X251.here hx rfl (hb hby d_jdk_43_method_22_15) rfl kq)
  show Win p e below _ T251 (mkF mt 16 #[.val (.ref b), .val (.int (124 : Int32)), .val (.int (0 : Int32)), .val (.int (3 : Int32))] [(.int (3 : Int32))])
  refine Win.st ?_ (fun tq kq => XS.aloadN X251.here hx rfl (hb hby d_jdk_43_method_22_16) rfl rfl kq)
  show Win p e below _ T251 (mkF mt 17 #[.val (.ref b), .val (.int (124 : Int32)), .val (.int (0 : Int32)), .val (.int (3 : Int32))] [(.ref b), (.int (3 : Int32))])
  refine Win.st ?_ (own_alen (g := (mkF mt 17 #[.val (.ref b), .val (.int (124 : Int32)), .val (.int (0 : Int32)), .val (.int (3 : Int32))] [(.ref b), (.int (3 : Int32))])) X251 hx hZ e251 VB rfl rfl (hb hby d_jdk_43_method_22_17))
  show Win p e below _ T251 (mkF mt 18 #[.val (.ref b), .val (.int (124 : Int32)), .val (.int (0 : Int32)), .val (.int (3 : Int32))] [(.int (3 : Int32)), (.int (3 : Int32))])
  obtain ⟨v252, _, ⟨T252, L252, k252, n252⟩, -, X252, ⟨Lc252, hQ252, l252, y252, z252⟩, st252⟩ := Jvm.LawKit.callS X251 hx (y := (⟨"java/lang/Math", "min", "(II)I"⟩ : MethodName)) hown (mvT hZ (hw _ (List.mem_of_getElem? (i := 71) rfl))) (mvT hZ (hw _ (List.mem_of_getElem? (i := 72) rfl))) (mvT hZ (hw _ (List.mem_of_getElem? (i := 69) rfl))) (mvT hZ (hw _ (List.mem_of_getElem? (i := 73) rfl))) (by decide) (backOf (W := 0) (rm_min l Z a0 hw [] (3 : Int32) (3 : Int32) h0 n0 Z0 ) hZ (hw _ (List.mem_of_getElem? (i := 73) rfl)) (hw _ (List.mem_of_getElem? (i := 69) rfl)) (by decide) (by decide)) (g := (mkF mt 18 #[.val (.ref b), .val (.int (124 : Int32)), .val (.int (0 : Int32)), .val (.int (3 : Int32))] [(.int (3 : Int32)), (.int (3 : Int32))])) rfl (by rw [hml]; rfl) (argsL := [(.int (3 : Int32)), (.int (3 : Int32))]) (rest := []) (lenOf pd_4 rfl) rfl (by show 2 * 0 + _ ≤ _; exact Nat.le_of_eq rfl) (hb hby d_jdk_43_method_22_18) (fun _ _ => ⟨rfl, e251, (by decide : 0 + 0 ≤ _), (by decide : 0 + 0 ≤ _)⟩)
  dsimp only [Pt.U, Pt.locs, Pt.cells, Pt.slots] at X252 l252 y252 z252 st252 hQ252
  subst y252 z252
  replace X252 : Stand p l e _ s mt args below meth cd T252 L252 0 0 := X252
  obtain ⟨h252, e252⟩ : ∃ z, T252.heap = z := ⟨_, rfl⟩
  rw [e252] at hQ252
  obtain ⟨rfl, Nq252, eh252⟩ := hQ252
  have N252 : Fr n0 L252 := by rw [l252]; exact Fr.app N251 Nq252
  rw [eh252] at e252
  rw [show own_min (3 : Int32) (3 : Int32) = (3 : Int32) from by decide] at st252
  refine Win.st ?_ st252
  show Win p e below _ T252 (mkF mt 21 #[.val (.ref b), .val (.int (124 : Int32)), .val (.int (0 : Int32)), .val (.int (3 : Int32))] [(.int (3 : Int32))])
  refine Win.st ?_ (fun tq kq => XS.istoreN X252.here hx rfl (hb hby d_jdk_43_method_22_21) rfl (l' := #[.val (.ref b), .val (.int (124 : Int32)), .val (.int (0 : Int32)), .val (.int (3 : Int32))]) rfl kq)
  show Win p e below _ T252 (mkF mt 22 #[.val (.ref b), .val (.int (124 : Int32)), .val (.int (0 : Int32)), .val (.int (3 : Int32))] [])
  refine Win.st ?_ (fun tq kq => XS.iloadN X252.here hx rfl (hb hby d_jdk_43_method_22_22) rfl kq)
  show Win p e below _ T252 (mkF mt 23 #[.val (.ref b), .val (.int (124 : Int32)), .val (.int (0 : Int32)), .val (.int (3 : Int32))] [(.int (0 : Int32))])
  refine Win.st ?_ (fun tq kq => XS.iloadN X252.here hx rfl (hb hby d_jdk_43_method_22_23) rfl kq)
  show Win p e below _ T252 (mkF mt 24 #[.val (.ref b), .val (.int (124 : Int32)), .val (.int (0 : Int32)), .val (.int (3 : Int32))] [(.int (3 : Int32)), (.int (0 : Int32))])
  refine Win.st ?_ (fun tq kq => XS.icmpYes X252.here hx rfl (pc0 := 24) (pc' := 29) rfl (hb hby d_jdk_43_method_22_24) rfl (tlt (by decide : (0 : Int32) < (3 : Int32))).1 (by decide) (by decide) kq)
  show Win p e below _ T252 (mkF mt 29 #[.val (.ref b), .val (.int (124 : Int32)), .val (.int (0 : Int32)), .val (.int (3 : Int32))] [])
  refine Win.st ?_ (fun tq kq => XS.aloadN X252.here hx rfl (hb hby d_jdk_43_method_22_29) rfl rfl kq)
  show Win p e below _ T252 (mkF mt 30 #[.val (.ref b), .val (.int (124 : Int32)), .val (.int (0 : Int32)), .val (.int (3 : Int32))] [(.ref b)])
  refine Win.st ?_ (fun tq kq => XS.iloadN X252.here hx rfl (hb hby d_jdk_43_method_22_30) rfl kq)
  show Win p e below _ T252 (mkF mt 31 #[.val (.ref b), .val (.int (124 : Int32)), .val (.int (0 : Int32)), .val (.int (3 : Int32))] [(.int (124 : Int32)), (.ref b)])
  refine Win.st ?_ (fun tq kq => XS.iloadN X252.here hx rfl (hb hby d_jdk_43_method_22_31) rfl kq)
  show Win p e below _ T252 (mkF mt 32 #[.val (.ref b), .val (.int (124 : Int32)), .val (.int (0 : Int32)), .val (.int (3 : Int32))] [(.int (0 : Int32)), (.int (124 : Int32)), (.ref b)])
  refine Win.st ?_ (fun tq kq => XS.iloadN X252.here hx rfl (hb hby d_jdk_43_method_22_32) rfl kq)
  show Win p e below _ T252 (mkF mt 33 #[.val (.ref b), .val (.int (124 : Int32)), .val (.int (0 : Int32)), .val (.int (3 : Int32))] [(.int (3 : Int32)), (.int (0 : Int32)), (.int (124 : Int32)), (.ref b)])
  obtain ⟨v253, _, ⟨T253, L253, k253, n253⟩, -, X253, ⟨Lc253, hQ253, l253, y253, z253⟩, st253⟩ := Jvm.LawKit.callS X252 hx (y := (⟨"java/lang/StringLatin1", "indexOfChar", "([BIII)I"⟩ : MethodName)) hown (mvT hZ (hw _ (List.mem_of_getElem? (i := 84) rfl))) (mvT hZ (hw _ (List.mem_of_getElem? (i := 85) rfl))) (mvT hZ (hw _ (List.mem_of_getElem? (i := 62) rfl))) (mvT hZ (hw _ (List.mem_of_getElem? (i := 86) rfl))) (by decide) (backOf (W := 0) (rm_ioc_3 l Z a0 hw [] b kb x0 x1 x2 h0 n0 Z0 VB hp0 hp1 hp2) hZ (hw _ (List.mem_of_getElem? (i := 86) rfl)) (hw _ (List.mem_of_getElem? (i := 62) rfl)) (by decide) (by decide)) (g := (mkF mt 33 #[.val (.ref b), .val (.int (124 : Int32)), .val (.int (0 : Int32)), .val (.int (3 : Int32))] [(.int (3 : Int32)), (.int (0 : Int32)), (.int (124 : Int32)), (.ref b)])) rfl (by rw [hml]; rfl) (argsL := [(.ref b), (.int (124 : Int32)), (.int (0 : Int32)), (.int (3 : Int32))]) (rest := []) (lenOf pd_7 rfl) rfl (by show 2 * 0 + _ ≤ _; exact Nat.le_of_eq rfl) (hb hby d_jdk_43_method_22_33) (fun _ _ => ⟨rfl, e252, (by decide : 0 + 0 ≤ _), (by decide : 0 + 0 ≤ _)⟩)
  dsimp only [Pt.U, Pt.locs, Pt.cells, Pt.slots] at X253 l253 y253 z253 st253 hQ253
  subst y253 z253
  replace X253 : Stand p l e _ s mt args below meth cd T253 L253 0 0 := X253
  obtain ⟨h253, e253⟩ : ∃ z, T253.heap = z := ⟨_, rfl⟩
  rw [e253] at hQ253
  obtain ⟨rr, rfl, Nq253, eh253, hr⟩ := hQ253
  have N253 : Fr n0 L253 := by rw [l253]; exact Fr.app N252 Nq253
  rw [eh253] at e253
  refine Win.st ?_ st253
  show Win p e below _ T253 (mkF mt 36 #[.val (.ref b), .val (.int (124 : Int32)), .val (.int (0 : Int32)), .val (.int (3 : Int32))] [(.int rr)])
  exact Win.ret X253 hx hlk e253 hrt rfl (Or.inl ⟨rfl, Or.inl rfl, _, rfl⟩) (hb hby d_jdk_43_method_22_36) (by decide) (by decide) ⟨_, rfl, N253, rfl, hr⟩
theorem ef_io2_3 (mt : MethodId) (a : Addr) : entryFrame mt #[(.ref a), (.int (124 : Int32)), (.int (0 : Int32))] 3 = mkF mt 0 #[.val (.ref a), .val (.int (124 : Int32)), .val (.int (0 : Int32))] [] := by first | (simp [entryFrame, mkF, argsToLocals, Value.category]; done) | rfl
def Q_io2_3 (Z : State) (a : Addr) (b : Addr) (kb : ClassId) (cs : Int32) (x0 : Int32) (x1 : Int32) (x2 : Int32) (h0 : Heap) (n0 : Nat) (v : Option Value) (h : Heap) (L : List Loc) : Prop := ∃ r : Int32, v = some (.int r) ∧ Fr n0 L ∧ h = h0 ∧ (r < 0 ↔ (¬ (x0 = (124 : Int32)) ∧ ¬ (x1 = (124 : Int32)) ∧ ¬ (x2 = (124 : Int32))))
set_option maxRecDepth 65536 in
set_option maxHeartbeats 40000000 in
theorem rm_io2_3 (l : Launch) (Z : State) (a0 : Array Value) (hw : ∀ d ∈ tables_1, d.before a0 Z = true) (ws : List Jvm.Cond) (a : Addr) (b : Addr) (kb : ClassId) (cs : Int32) (x0 : Int32) (x1 : Int32) (x2 : Int32) (h0 : Heap) (n0 : Nat) (Z0 : n0 ≤ h0.size) (E : Exa Z h0 a "java/lang/String") (Fv : Fld Z h0 a "java/lang/String" "value" "[B" (.ref b)) (Fc : Fld Z h0 a "java/lang/String" "coder" "B" (.int (0 : Int32))) (VB : Arv Z h0 b kb .byte (3 : Int32) [(.int (x0.toInt8.toInt32)), (.int (x1.toInt8.toInt32)), (.int (x2.toInt8.toInt32))] (.int (0 : Int32))) (S0 : Sta Z Z.heap "java/lang/String" "COMPACT_STRINGS" "Z" (.int cs)) (hcs : ¬ cs = (0 : Int32)) (O : Old Z n0 h0) (hp0 : own_B x0) (hp1 : own_B x1) (hp2 : own_B x2) :
    MetFree l (⟨"java/lang/String", "indexOf", "(II)I"⟩ : MethodName) (head1 (Jvm.Cond.code (⟨"java/lang/String", "indexOf", "(II)I"⟩ : MethodName) jdk_42_method_80_code 3 (some .int) :: ws) ({ frames := 2, cells := 0, slots := 0, locals := 32 } : Room)) (fun aa UU => aa = #[(.ref a), (.int (124 : Int32)), (.int (0 : Int32))] ∧ Z.Warmed39 UU.vm ∧ UU.heap = h0) (fun _ _ _ _ _ => True) (fun _ UU oo UU' => ∃ vv LL, oo = .returned vv ∧ Q_io2_3 Z a b kb cs x0 x1 x2 h0 n0 vv UU'.heap LL ∧ FrameEnd UU oo UU' LL ({ frames := 2, cells := 0, slots := 0, locals := 32 } : Room).cells ({ frames := 2, cells := 0, slots := 0, locals := 32 } : Room).slots) := by
  refine MetFree.of_bodySF (plainFor_of_name pn_1) hisR ?_
  intro p e s mt args below meth cd s₁ Bd hml0 hP hK
  obtain ⟨hA, hZ, hh⟩ := hP
  have hx := Bd.exec
  have hby := Bd.bytes
  have hml : cd.maxLocals = 3 := hml0
  have hown : s.vm.findClass "java/lang/String" = some mt.cls := findClass_of_methodNamed Bd.named
  have hnm := (name_of_methodNamed Bd.named Bd.method).1
  have hlk : meth.locks = false := BodyLoose.notSynchronized Bd
  have hrt := Bd.returns
  have X0 : Stand p l e ({ frames := 2, cells := 0, slots := 0, locals := 32 } : Room) s mt args below meth cd s₁ [] 0 0 := Stand.of_body Bd
  have e0 : s₁.heap = h0 := by rw [← hh, Bd.state]; rfl
  have N0 := Fr.nil n0
  show Win p e below (Ends s (Q_io2_3 Z a b kb cs x0 x1 x2 h0 n0) ({ frames := 2, cells := 0, slots := 0, locals := 32 } : Room).cells ({ frames := 2, cells := 0, slots := 0, locals := 32 } : Room).slots) s₁ (entryFrame mt args 3)
  rw [hA, ef_io2_3]
  refine Win.st ?_ (fun tq kq => XS.aloadN X0.here hx rfl (hb hby d_jdk_42_method_80_0) rfl rfl kq)
  show Win p e below _ s₁ (mkF mt 1 #[.val (.ref a), .val (.int (124 : Int32)), .val (.int (0 : Int32))] [(.ref a)])
  obtain ⟨cq254, kq254, q254a, q254b, q254c⟩ := isOf hZ e0 E
  obtain ⟨v254, _, ⟨T254, L254, k254, n254⟩, -, X254, ⟨Lc254, hQ254, l254, y254, z254⟩, st254⟩ := X0.virtualBack hx (y := (⟨"java/lang/String", "isLatin1", "()Z"⟩ : MethodName)) (z := (⟨"java/lang/String", "isLatin1", "()Z"⟩ : MethodName)) hown (mvT hZ (hw _ (List.mem_of_getElem? (i := 44) rfl))) (mvT hZ (hw _ (List.mem_of_getElem? (i := 45) rfl))) (notFace_of_selects (args := #[]) (mvT hZ (hw _ (List.mem_of_getElem? (i := 47) rfl)))) (mvT hZ (hw _ (List.mem_of_getElem? (i := 47) rfl))) (mvT hZ (hw _ (List.mem_of_getElem? (i := 46) rfl))) (by decide) (backOf (W := 0) (rm_islatin1 l Z a0 hw [] a cs h0 n0 Z0 Fc S0 hcs O) hZ (hw _ (List.mem_of_getElem? (i := 48) rfl)) (hw _ (List.mem_of_getElem? (i := 10) rfl)) (by decide) (by decide)) q254a q254c (g := (mkF mt 1 #[.val (.ref a), .val (.int (124 : Int32)), .val (.int (0 : Int32))] [(.ref a)])) rfl (by rw [hml]; rfl) (Steps.refl _) (argsL := []) (rest := []) (lenOf pd_5 rfl) rfl (by show 2 * 0 + _ ≤ _; exact Nat.le_of_eq rfl) (hb hby d_jdk_42_method_80_1) (fun _ _ => ⟨rfl, e0, (by decide : 0 + 0 ≤ _), (by decide : 0 + 0 ≤ _)⟩)
  dsimp only [Pt.U, Pt.locs, Pt.cells, Pt.slots] at X254 l254 y254 z254 st254 hQ254
  subst y254 z254
  replace X254 : Stand p l e _ s mt args below meth cd T254 L254 0 0 := X254
  obtain ⟨h254, e254⟩ : ∃ z, T254.heap = z := ⟨_, rfl⟩
  rw [e254] at hQ254
  obtain ⟨rfl, Nq254, eh254⟩ := hQ254
  have N254 : Fr n0 L254 := by rw [l254]; exact Fr.app N0 Nq254
  rw [eh254] at e254
  refine Win.tr ?_ st254
  show Win p e below _ T254 (mkF mt 4 #[.val (.ref a), .val (.int (124 : Int32)), .val (.int (0 : Int32))] [(.int (1 : Int32))])
  refine Win.st ?_ (fun tq kq => XS.ifNo X254.here hx rfl (hb hby d_jdk_42_method_80_4) rfl ((if0 _ _).trans (feq (by decide : ¬ ((1 : Int32) = (0 : Int32)))).1) kq)
  show Win p e below _ T254 (mkF mt 7 #[.val (.ref a), .val (.int (124 : Int32)), .val (.int (0 : Int32))] [])
  refine Win.st ?_ (fun tq kq => XS.aloadN X254.here hx rfl (hb hby d_jdk_42_method_80_7) rfl rfl kq)
  show Win p e below _ T254 (mkF mt 8 #[.val (.ref a), .val (.int (124 : Int32)), .val (.int (0 : Int32))] [(.ref a)])
  obtain ⟨T255, X255, e255, st255⟩ := getF X254 hx hZ hown (host := "") (Or.inl (hw _ (List.mem_of_getElem? (i := 28) rfl))) Via.refl e254 Fv (g := (mkF mt 8 #[.val (.ref a), .val (.int (124 : Int32)), .val (.int (0 : Int32))] [(.ref a)])) rfl rfl (hb hby d_jdk_42_method_80_8)
  refine Win.st ?_ st255
  show Win p e below _ T255 (mkF mt 11 #[.val (.ref a), .val (.int (124 : Int32)), .val (.int (0 : Int32))] [(.ref b)])
  refine Win.st ?_ (fun tq kq => XS.iloadN X255.here hx rfl (hb hby d_jdk_42_method_80_11) rfl kq)
  show Win p e below _ T255 (mkF mt 12 #[.val (.ref a), .val (.int (124 : Int32)), .val (.int (0 : Int32))] [(.int (124 : Int32)), (.ref b)])
  refine Win.st ?_ (fun tq kq => XS.iloadN X255.here hx rfl (hb hby d_jdk_42_method_80_12) rfl kq)
  show Win p e below _ T255 (mkF mt 13 #[.val (.ref a), .val (.int (124 : Int32)), .val (.int (0 : Int32))] [(.int (0 : Int32)), (.int (124 : Int32)), (.ref b)])
  refine Win.st ?_ (fun tq kq => XS.aloadN X255.here hx rfl (hb hby d_jdk_42_method_80_13) rfl rfl kq)
  show Win p e below _ T255 (mkF mt 14 #[.val (.ref a), .val (.int (124 : Int32)), .val (.int (0 : Int32))] [(.ref a), (.int (0 : Int32)), (.int (124 : Int32)), (.ref b)])
  obtain ⟨cq256, kq256, q256a, q256b, q256c⟩ := isOf hZ e255 E
  obtain ⟨v256, _, ⟨T256, L256, k256, n256⟩, -, X256, ⟨Lc256, hQ256, l256, y256, z256⟩, st256⟩ := X255.virtualBack hx (y := (⟨"java/lang/String", "length", "()I"⟩ : MethodName)) (z := (⟨"java/lang/String", "length", "()I"⟩ : MethodName)) hown (mvT hZ (hw _ (List.mem_of_getElem? (i := 50) rfl))) (mvT hZ (hw _ (List.mem_of_getElem? (i := 51) rfl))) (notFace_of_selects (args := #[]) (mvT hZ (hw _ (List.mem_of_getElem? (i := 53) rfl)))) (mvT hZ (hw _ (List.mem_of_getElem? (i := 53) rfl))) (mvT hZ (hw _ (List.mem_of_getElem? (i := 52) rfl))) (by decide) (backOf (W := 3) (rm_slen l Z a0 hw [] a b kb (3 : Int32) [(.int (x0.toInt8.toInt32)), (.int (x1.toInt8.toInt32)), (.int (x2.toInt8.toInt32))] cs h0 n0 Z0 E Fv Fc VB S0 hcs O) hZ (hw _ (List.mem_of_getElem? (i := 54) rfl)) (hw _ (List.mem_of_getElem? (i := 10) rfl)) (by decide) (by decide)) q256a q256c (g := (mkF mt 14 #[.val (.ref a), .val (.int (124 : Int32)), .val (.int (0 : Int32))] [(.ref a), (.int (0 : Int32)), (.int (124 : Int32)), (.ref b)])) rfl (by rw [hml]; rfl) (Steps.refl _) (argsL := []) (rest := [(.int (0 : Int32)), (.int (124 : Int32)), (.ref b)]) (lenOf pd_6 rfl) rfl (by show 2 * 0 + _ ≤ _; exact Nat.le_of_eq rfl) (hb hby d_jdk_42_method_80_14) (fun _ _ => ⟨rfl, e255, (by decide : 0 + 0 ≤ _), (by decide : 0 + 0 ≤ _)⟩)
  dsimp only [Pt.U, Pt.locs, Pt.cells, Pt.slots] at X256 l256 y256 z256 st256 hQ256
  subst y256 z256
  replace X256 : Stand p l e _ s mt args below meth cd T256 L256 0 0 := X256
  obtain ⟨h256, e256⟩ : ∃ z, T256.heap = z := ⟨_, rfl⟩
  rw [e256] at hQ256
  obtain ⟨rfl, Nq256, eh256⟩ := hQ256
  have N256 : Fr n0 L256 := by rw [l256]; exact Fr.app N254 Nq256
  rw [eh256] at e256
  refine Win.tr ?_ st256
  show Win p e below _ T256 (mkF mt 17 #[.val (.ref a), .val (.int (124 : Int32)), .val (.int (0 : Int32))] [(.int (3 : Int32)), (.int (0 : Int32)), (.int (124 : Int32)), (.ref b)])
  obtain ⟨v257, _, ⟨T257, L257, k257, n257⟩, -, X257, ⟨Lc257, hQ257, l257, y257, z257⟩, st257⟩ := Jvm.LawKit.callS X256 hx (y := (⟨"java/lang/StringLatin1", "indexOf", "([BIII)I"⟩ : MethodName)) hown (mvT hZ (hw _ (List.mem_of_getElem? (i := 60) rfl))) (mvT hZ (hw _ (List.mem_of_getElem? (i := 61) rfl))) (mvT hZ (hw _ (List.mem_of_getElem? (i := 62) rfl))) (mvT hZ (hw _ (List.mem_of_getElem? (i := 63) rfl))) (by decide) (backOf (W := 0) (rm_lio_3 l Z a0 hw [] b kb x0 x1 x2 h0 n0 Z0 VB hp0 hp1 hp2) hZ (hw _ (List.mem_of_getElem? (i := 63) rfl)) (hw _ (List.mem_of_getElem? (i := 62) rfl)) (by decide) (by decide)) (g := (mkF mt 17 #[.val (.ref a), .val (.int (124 : Int32)), .val (.int (0 : Int32))] [(.int (3 : Int32)), (.int (0 : Int32)), (.int (124 : Int32)), (.ref b)])) rfl (by rw [hml]; rfl) (argsL := [(.ref b), (.int (124 : Int32)), (.int (0 : Int32)), (.int (3 : Int32))]) (rest := []) (lenOf pd_7 rfl) rfl (by show 2 * 0 + _ ≤ _; exact Nat.le_of_eq rfl) (hb hby d_jdk_42_method_80_17) (fun _ _ => ⟨rfl, e256, (by decide : 0 + 0 ≤ _), (by decide : 0 + 0 ≤ _)⟩)
  dsimp only [Pt.U, Pt.locs, Pt.cells, Pt.slots] at X257 l257 y257 z257 st257 hQ257
  subst y257 z257
  replace X257 : Stand p l e _ s mt args below meth cd T257 L257 0 0 := X257
  obtain ⟨h257, e257⟩ : ∃ z, T257.heap = z := ⟨_, rfl⟩
  rw [e257] at hQ257
  obtain ⟨rr, rfl, Nq257, eh257, hr⟩ := hQ257
  have N257 : Fr n0 L257 := by rw [l257]; exact Fr.app N256 Nq257
  rw [eh257] at e257
  refine Win.st ?_ st257
  show Win p e below _ T257 (mkF mt 20 #[.val (.ref a), .val (.int (124 : Int32)), .val (.int (0 : Int32))] [(.int rr)])
  refine Win.st ?_ (fun tq kq => XS.goto X257.here hx rfl (pc0 := 20) (pc' := 36) rfl (hb hby d_jdk_42_method_80_20) (by decide) (by decide) kq)
  show Win p e below _ T257 (mkF mt 36 #[.val (.ref a), .val (.int (124 : Int32)), .val (.int (0 : Int32))] [(.int rr)])
  exact Win.ret X257 hx hlk e257 hrt rfl (Or.inl ⟨rfl, Or.inl rfl, _, rfl⟩) (hb hby d_jdk_42_method_80_36) (by decide) (by decide) ⟨_, rfl, N257, rfl, hr⟩
theorem ef_io1_3 (mt : MethodId) (a : Addr) : entryFrame mt #[(.ref a), (.int (124 : Int32))] 2 = mkF mt 0 #[.val (.ref a), .val (.int (124 : Int32))] [] := by first | (simp [entryFrame, mkF, argsToLocals, Value.category]; done) | rfl
def Q_io1_3 (Z : State) (a : Addr) (b : Addr) (kb : ClassId) (cs : Int32) (x0 : Int32) (x1 : Int32) (x2 : Int32) (h0 : Heap) (n0 : Nat) (v : Option Value) (h : Heap) (L : List Loc) : Prop := ∃ r : Int32, v = some (.int r) ∧ Fr n0 L ∧ h = h0 ∧ (r < 0 ↔ (¬ (x0 = (124 : Int32)) ∧ ¬ (x1 = (124 : Int32)) ∧ ¬ (x2 = (124 : Int32))))
set_option maxRecDepth 65536 in
set_option maxHeartbeats 40000000 in
theorem rm_io1_3 (l : Launch) (Z : State) (a0 : Array Value) (hw : ∀ d ∈ tables_1, d.before a0 Z = true) (ws : List Jvm.Cond) (a : Addr) (b : Addr) (kb : ClassId) (cs : Int32) (x0 : Int32) (x1 : Int32) (x2 : Int32) (h0 : Heap) (n0 : Nat) (Z0 : n0 ≤ h0.size) (E : Exa Z h0 a "java/lang/String") (Fv : Fld Z h0 a "java/lang/String" "value" "[B" (.ref b)) (Fc : Fld Z h0 a "java/lang/String" "coder" "B" (.int (0 : Int32))) (VB : Arv Z h0 b kb .byte (3 : Int32) [(.int (x0.toInt8.toInt32)), (.int (x1.toInt8.toInt32)), (.int (x2.toInt8.toInt32))] (.int (0 : Int32))) (S0 : Sta Z Z.heap "java/lang/String" "COMPACT_STRINGS" "Z" (.int cs)) (hcs : ¬ cs = (0 : Int32)) (O : Old Z n0 h0) (hp0 : own_B x0) (hp1 : own_B x1) (hp2 : own_B x2) :
    MetFree l (⟨"java/lang/String", "indexOf", "(I)I"⟩ : MethodName) (head1 (Jvm.Cond.code (⟨"java/lang/String", "indexOf", "(I)I"⟩ : MethodName) jdk_42_method_79_code 2 (some .int) :: ws) ({ frames := 3, cells := 0, slots := 0, locals := 46 } : Room)) (fun aa UU => aa = #[(.ref a), (.int (124 : Int32))] ∧ Z.Warmed39 UU.vm ∧ UU.heap = h0) (fun _ _ _ _ _ => True) (fun _ UU oo UU' => ∃ vv LL, oo = .returned vv ∧ Q_io1_3 Z a b kb cs x0 x1 x2 h0 n0 vv UU'.heap LL ∧ FrameEnd UU oo UU' LL ({ frames := 3, cells := 0, slots := 0, locals := 46 } : Room).cells ({ frames := 3, cells := 0, slots := 0, locals := 46 } : Room).slots) := by
  refine MetFree.of_bodySF (plainFor_of_name pn_1) hisR ?_
  intro p e s mt args below meth cd s₁ Bd hml0 hP hK
  obtain ⟨hA, hZ, hh⟩ := hP
  have hx := Bd.exec
  have hby := Bd.bytes
  have hml : cd.maxLocals = 2 := hml0
  have hown : s.vm.findClass "java/lang/String" = some mt.cls := findClass_of_methodNamed Bd.named
  have hnm := (name_of_methodNamed Bd.named Bd.method).1
  have hlk : meth.locks = false := BodyLoose.notSynchronized Bd
  have hrt := Bd.returns
  have X0 : Stand p l e ({ frames := 3, cells := 0, slots := 0, locals := 46 } : Room) s mt args below meth cd s₁ [] 0 0 := Stand.of_body Bd
  have e0 : s₁.heap = h0 := by rw [← hh, Bd.state]; rfl
  have N0 := Fr.nil n0
  show Win p e below (Ends s (Q_io1_3 Z a b kb cs x0 x1 x2 h0 n0) ({ frames := 3, cells := 0, slots := 0, locals := 46 } : Room).cells ({ frames := 3, cells := 0, slots := 0, locals := 46 } : Room).slots) s₁ (entryFrame mt args 2)
  rw [hA, ef_io1_3]
  refine Win.st ?_ (fun tq kq => XS.aloadN X0.here hx rfl (hb hby d_jdk_42_method_79_0) rfl rfl kq)
  show Win p e below _ s₁ (mkF mt 1 #[.val (.ref a), .val (.int (124 : Int32))] [(.ref a)])
  refine Win.st ?_ (fun tq kq => XS.iloadN X0.here hx rfl (hb hby d_jdk_42_method_79_1) rfl kq)
  show Win p e below _ s₁ (mkF mt 2 #[.val (.ref a), .val (.int (124 : Int32))] [(.int (124 : Int32)), (.ref a)])
  refine Win.st ?_ (fun tq kq => XS.iconst X0.here hx rfl (hb hby d_jdk_42_method_79_2) kq)
  show Win p e below _ s₁ (mkF mt 3 #[.val (.ref a), .val (.int (124 : Int32))] [(.int (0 : Int32)), (.int (124 : Int32)), (.ref a)])
  obtain ⟨cq258, kq258, q258a, q258b, q258c⟩ := isOf hZ e0 E
  obtain ⟨v258, _, ⟨T258, L258, k258, n258⟩, -, X258, ⟨Lc258, hQ258, l258, y258, z258⟩, st258⟩ := X0.virtualBack hx (y := (⟨"java/lang/String", "indexOf", "(II)I"⟩ : MethodName)) (z := (⟨"java/lang/String", "indexOf", "(II)I"⟩ : MethodName)) hown (mvT hZ (hw _ (List.mem_of_getElem? (i := 39) rfl))) (mvT hZ (hw _ (List.mem_of_getElem? (i := 40) rfl))) (notFace_of_selects (args := #[]) (mvT hZ (hw _ (List.mem_of_getElem? (i := 42) rfl)))) (mvT hZ (hw _ (List.mem_of_getElem? (i := 42) rfl))) (mvT hZ (hw _ (List.mem_of_getElem? (i := 41) rfl))) (by decide) (backOf (W := 0) (rm_io2_3 l Z a0 hw [] a b kb cs x0 x1 x2 h0 n0 Z0 E Fv Fc VB S0 hcs O hp0 hp1 hp2) hZ (hw _ (List.mem_of_getElem? (i := 43) rfl)) (hw _ (List.mem_of_getElem? (i := 10) rfl)) (by decide) (by decide)) q258a q258c (g := (mkF mt 3 #[.val (.ref a), .val (.int (124 : Int32))] [(.int (0 : Int32)), (.int (124 : Int32)), (.ref a)])) rfl (by rw [hml]; rfl) (Steps.refl _) (argsL := [(.int (124 : Int32)), (.int (0 : Int32))]) (rest := []) (lenOf pd_4 rfl) rfl (by show 2 * 0 + _ ≤ _; exact Nat.le_of_eq rfl) (hb hby d_jdk_42_method_79_3) (fun _ _ => ⟨rfl, e0, (by decide : 0 + 0 ≤ _), (by decide : 0 + 0 ≤ _)⟩)
  dsimp only [Pt.U, Pt.locs, Pt.cells, Pt.slots] at X258 l258 y258 z258 st258 hQ258
  subst y258 z258
  replace X258 : Stand p l e _ s mt args below meth cd T258 L258 0 0 := X258
  obtain ⟨h258, e258⟩ : ∃ z, T258.heap = z := ⟨_, rfl⟩
  rw [e258] at hQ258
  obtain ⟨rr, rfl, Nq258, eh258, hr⟩ := hQ258
  have N258 : Fr n0 L258 := by rw [l258]; exact Fr.app N0 Nq258
  rw [eh258] at e258
  refine Win.tr ?_ st258
  show Win p e below _ T258 (mkF mt 6 #[.val (.ref a), .val (.int (124 : Int32))] [(.int rr)])
  exact Win.ret X258 hx hlk e258 hrt rfl (Or.inl ⟨rfl, Or.inl rfl, _, rfl⟩) (hb hby d_jdk_42_method_79_6) (by decide) (by decide) ⟨_, rfl, N258, rfl, hr⟩
theorem ef_hsy_3 (mt : MethodId) (a : Addr) : entryFrame mt #[(.ref a)] 1 = mkF mt 0 #[.val (.ref a)] [] := by first | (simp [entryFrame, mkF, argsToLocals, Value.category]; done) | rfl
def Q_hsy_3 (Z : State) (a : Addr) (b : Addr) (kb : ClassId) (cs : Int32) (x0 : Int32) (x1 : Int32) (x2 : Int32) (h0 : Heap) (n0 : Nat) (v : Option Value) (h : Heap) (L : List Loc) : Prop := ∃ r : Int32, v = some (.int r) ∧ Fr n0 L ∧ h = h0 ∧ ((¬ (x0 = (124 : Int32)) ∧ ¬ (x1 = (124 : Int32)) ∧ ¬ (x2 = (124 : Int32))) → r = 1) ∧ (¬ (¬ (x0 = (124 : Int32)) ∧ ¬ (x1 = (124 : Int32)) ∧ ¬ (x2 = (124 : Int32))) → r = 0)
set_option maxRecDepth 65536 in
set_option maxHeartbeats 40000000 in
theorem rm_hsy_3 (l : Launch) (Z : State) (a0 : Array Value) (hw : ∀ d ∈ tables_1, d.before a0 Z = true) (ws : List Jvm.Cond) (a : Addr) (b : Addr) (kb : ClassId) (cs : Int32) (x0 : Int32) (x1 : Int32) (x2 : Int32) (h0 : Heap) (n0 : Nat) (Z0 : n0 ≤ h0.size) (E : Exa Z h0 a "java/lang/String") (Fv : Fld Z h0 a "java/lang/String" "value" "[B" (.ref b)) (Fc : Fld Z h0 a "java/lang/String" "coder" "B" (.int (0 : Int32))) (VB : Arv Z h0 b kb .byte (3 : Int32) [(.int (x0.toInt8.toInt32)), (.int (x1.toInt8.toInt32)), (.int (x2.toInt8.toInt32))] (.int (0 : Int32))) (S0 : Sta Z Z.heap "java/lang/String" "COMPACT_STRINGS" "Z" (.int cs)) (hcs : ¬ cs = (0 : Int32)) (O : Old Z n0 h0) (hp0 : own_B x0) (hp1 : own_B x1) (hp2 : own_B x2) :
    MetFree l (⟨"com/example/foldkey/foldkey/store/Token", "holdsSystem", "(Ljava/lang/String;)Z"⟩ : MethodName) (head1 (Jvm.Cond.code (⟨"com/example/foldkey/foldkey/store/Token", "holdsSystem", "(Ljava/lang/String;)Z"⟩ : MethodName) prog_39_method_3_code 1 (some .boolean) :: ws) ({ frames := 4, cells := 0, slots := 0, locals := 59 } : Room)) (fun aa UU => aa = #[(.ref a)] ∧ Z.Warmed39 UU.vm ∧ UU.heap = h0) (fun _ _ _ _ _ => True) (fun _ UU oo UU' => ∃ vv LL, oo = .returned vv ∧ Q_hsy_3 Z a b kb cs x0 x1 x2 h0 n0 vv UU'.heap LL ∧ FrameEnd UU oo UU' LL ({ frames := 4, cells := 0, slots := 0, locals := 59 } : Room).cells ({ frames := 4, cells := 0, slots := 0, locals := 59 } : Room).slots) := by
  refine MetFree.of_bodySF (plainFor_of_name pn_3) hisR ?_
  intro p e s mt args below meth cd s₁ Bd hml0 hP hK
  obtain ⟨hA, hZ, hh⟩ := hP
  have hx := Bd.exec
  have hby := Bd.bytes
  have hml : cd.maxLocals = 1 := hml0
  have hown : s.vm.findClass "com/example/foldkey/foldkey/store/Token" = some mt.cls := findClass_of_methodNamed Bd.named
  have hnm := (name_of_methodNamed Bd.named Bd.method).1
  have hlk : meth.locks = false := BodyLoose.notSynchronized Bd
  have hrt := Bd.returns
  have X0 : Stand p l e ({ frames := 4, cells := 0, slots := 0, locals := 59 } : Room) s mt args below meth cd s₁ [] 0 0 := Stand.of_body Bd
  have e0 : s₁.heap = h0 := by rw [← hh, Bd.state]; rfl
  have N0 := Fr.nil n0
  show Win p e below (Ends s (Q_hsy_3 Z a b kb cs x0 x1 x2 h0 n0) ({ frames := 4, cells := 0, slots := 0, locals := 59 } : Room).cells ({ frames := 4, cells := 0, slots := 0, locals := 59 } : Room).slots) s₁ (entryFrame mt args 1)
  rw [hA, ef_hsy_3]
  refine Win.st ?_ (fun tq kq => XS.aloadN X0.here hx rfl (hb hby d_prog_39_method_3_0) rfl rfl kq)
  show Win p e below _ s₁ (mkF mt 1 #[.val (.ref a)] [(.ref a)])
  refine Win.st ?_ (fun tq kq => XS.bipush X0.here hx rfl (hb hby d_prog_39_method_3_1) kq)
  show Win p e below _ s₁ (mkF mt 3 #[.val (.ref a)] [(.int (124 : Int32)), (.ref a)])
  obtain ⟨cq259, kq259, q259a, q259b, q259c⟩ := isOf hZ e0 E
  obtain ⟨v259, _, ⟨T259, L259, k259, n259⟩, -, X259, ⟨Lc259, hQ259, l259, y259, z259⟩, st259⟩ := X0.virtualBack hx (y := (⟨"java/lang/String", "indexOf", "(I)I"⟩ : MethodName)) (z := (⟨"java/lang/String", "indexOf", "(I)I"⟩ : MethodName)) hown (mvT hZ (hw _ (List.mem_of_getElem? (i := 34) rfl))) (mvT hZ (hw _ (List.mem_of_getElem? (i := 35) rfl))) (notFace_of_selects (args := #[]) (mvT hZ (hw _ (List.mem_of_getElem? (i := 37) rfl)))) (mvT hZ (hw _ (List.mem_of_getElem? (i := 37) rfl))) (mvT hZ (hw _ (List.mem_of_getElem? (i := 36) rfl))) (by decide) (backOf (W := 0) (rm_io1_3 l Z a0 hw [] a b kb cs x0 x1 x2 h0 n0 Z0 E Fv Fc VB S0 hcs O hp0 hp1 hp2) hZ (hw _ (List.mem_of_getElem? (i := 38) rfl)) (hw _ (List.mem_of_getElem? (i := 10) rfl)) (by decide) (by decide)) q259a q259c (g := (mkF mt 3 #[.val (.ref a)] [(.int (124 : Int32)), (.ref a)])) rfl (by rw [hml]; rfl) (Steps.refl _) (argsL := [(.int (124 : Int32))]) (rest := []) (lenOf pd_8 rfl) rfl (by show 2 * 0 + _ ≤ _; exact Nat.le_of_eq rfl) (hb hby d_prog_39_method_3_3) (fun _ _ => ⟨rfl, e0, (by decide : 0 + 0 ≤ _), (by decide : 0 + 0 ≤ _)⟩)
  dsimp only [Pt.U, Pt.locs, Pt.cells, Pt.slots] at X259 l259 y259 z259 st259 hQ259
  subst y259 z259
  replace X259 : Stand p l e _ s mt args below meth cd T259 L259 0 0 := X259
  obtain ⟨h259, e259⟩ : ∃ z, T259.heap = z := ⟨_, rfl⟩
  rw [e259] at hQ259
  obtain ⟨rr, rfl, Nq259, eh259, hr⟩ := hQ259
  have N259 : Fr n0 L259 := by rw [l259]; exact Fr.app N0 Nq259
  rw [eh259] at e259
  refine Win.tr ?_ st259
  show Win p e below _ T259 (mkF mt 6 #[.val (.ref a)] [(.int rr)])
  by_cases hc6 : rr < (0 : Int32)
  · refine Win.st ?_ (fun tq kq => XS.ifNo X259.here hx rfl (hb hby d_prog_39_method_3_6) rfl ((if0 _ _).trans (tlt hc6).2.1) kq)
    show Win p e below _ T259 (mkF mt 9 #[.val (.ref a)] [])
    refine Win.st ?_ (fun tq kq => XS.iconst X259.here hx rfl (hb hby d_prog_39_method_3_9) kq)
    show Win p e below _ T259 (mkF mt 10 #[.val (.ref a)] [(.int (1 : Int32))])
    refine Win.st ?_ (fun tq kq => XS.goto X259.here hx rfl (pc0 := 10) (pc' := 14) rfl (hb hby d_prog_39_method_3_10) (by decide) (by decide) kq)
    show Win p e below _ T259 (mkF mt 14 #[.val (.ref a)] [(.int (1 : Int32))])
    exact Win.retN X259 hx hlk e259 (t := .boolean) (z' := (1 : Int32)) hrt (by simp) (hb hby d_prog_39_method_3_14) (by decide) (by decide) rfl ⟨_, rfl, N259, rfl, fun _ => rfl, fun q => absurd (hr.mp hc6) q⟩
  · refine Win.st ?_ (fun tq kq => XS.ifYes X259.here hx rfl (pc0 := 6) (pc' := 13) rfl (hb hby d_prog_39_method_3_6) rfl ((if0 _ _).trans (flt hc6).2.1) (by decide) (by decide) kq)
    show Win p e below _ T259 (mkF mt 13 #[.val (.ref a)] [])
    refine Win.st ?_ (fun tq kq => XS.iconst X259.here hx rfl (hb hby d_prog_39_method_3_13) kq)
    show Win p e below _ T259 (mkF mt 14 #[.val (.ref a)] [(.int (0 : Int32))])
    exact Win.retN X259 hx hlk e259 (t := .boolean) (z' := (0 : Int32)) hrt (by simp) (hb hby d_prog_39_method_3_14) (by decide) (by decide) rfl ⟨_, rfl, N259, rfl, fun q => absurd (hr.mpr q) hc6, fun _ => rfl⟩
theorem ef_cmp5_4 (mt : MethodId) (a : Addr) (b : Addr) : entryFrame mt #[(.ref a), (.int (0 : Int32)), (.ref b), (.int (0 : Int32)), (.int (4 : Int32))] 7 = mkF mt 0 #[.val (.ref a), .val (.int (0 : Int32)), .val (.ref b), .val (.int (0 : Int32)), .val (.int (4 : Int32)), .unset, .unset] [] := by first | (simp [entryFrame, mkF, argsToLocals, Value.category]; done) | rfl
def Q_cmp5_4 (Z : State) (a : Addr) (b : Addr) (ka : ClassId) (kb : ClassId) (x0 : Int32) (x1 : Int32) (x2 : Int32) (x3 : Int32) (h0 : Heap) (n0 : Nat) (v : Option Value) (h : Heap) (L : List Loc) : Prop := v = some (.int (4 : Int32)) ∧ Fr n0 L ∧ Keep h0 h [b] ∧ Arv Z h b kb .byte (4 : Int32) [(.int (x0.toInt8.toInt32)), (.int (x1.toInt8.toInt32)), (.int (x2.toInt8.toInt32)), (.int (x3.toInt8.toInt32))] (.int (0 : Int32))
set_option maxRecDepth 65536 in
set_option maxHeartbeats 40000000 in
theorem rm_cmp5_4 (l : Launch) (Z : State) (a0 : Array Value) (hw : ∀ d ∈ tables_1, d.before a0 Z = true) (ws : List Jvm.Cond) (a : Addr) (b : Addr) (ka : ClassId) (kb : ClassId) (x0 : Int32) (x1 : Int32) (x2 : Int32) (x3 : Int32) (h0 : Heap) (n0 : Nat) (Z0 : n0 ≤ h0.size) (VA : Arv Z h0 a ka .char (4 : Int32) [(.int x0), (.int x1), (.int x2), (.int x3)] (.int (0 : Int32))) (VB : Arv Z h0 b kb .byte (4 : Int32) [(.int (0 : Int32)), (.int (0 : Int32)), (.int (0 : Int32)), (.int (0 : Int32))] (.int (0 : Int32))) (gb : n0 ≤ b) (nab : a ≠ b) (hp0 : own_B x0) (hp1 : own_B x1) (hp2 : own_B x2) (hp3 : own_B x3) :
    MetFree l (⟨"java/lang/StringUTF16", "compress", "([CI[BII)I"⟩ : MethodName) (head1 (Jvm.Cond.code (⟨"java/lang/StringUTF16", "compress", "([CI[BII)I"⟩ : MethodName) jdk_52_method_21_code 7 (some .int) :: ws) ({ frames := 0, cells := 0, slots := 0, locals := 0 } : Room)) (fun aa UU => aa = #[(.ref a), (.int (0 : Int32)), (.ref b), (.int (0 : Int32)), (.int (4 : Int32))] ∧ Z.Warmed39 UU.vm ∧ UU.heap = h0) (fun _ _ _ _ _ => True) (fun _ UU oo UU' => ∃ vv LL, oo = .returned vv ∧ Q_cmp5_4 Z a b ka kb x0 x1 x2 x3 h0 n0 vv UU'.heap LL ∧ FrameEnd UU oo UU' LL ({ frames := 0, cells := 0, slots := 0, locals := 0 } : Room).cells ({ frames := 0, cells := 0, slots := 0, locals := 0 } : Room).slots) := by
  refine MetFree.of_bodySF (plainFor_of_name pn_4) hisR ?_
  intro p e s mt args below meth cd s₁ Bd hml0 hP hK
  obtain ⟨hA, hZ, hh⟩ := hP
  have hx := Bd.exec
  have hby := Bd.bytes
  have hml : cd.maxLocals = 7 := hml0
  have hown : s.vm.findClass "java/lang/StringUTF16" = some mt.cls := findClass_of_methodNamed Bd.named
  have hnm := (name_of_methodNamed Bd.named Bd.method).1
  have hlk : meth.locks = false := BodyLoose.notSynchronized Bd
  have hrt := Bd.returns
  have X0 : Stand p l e ({ frames := 0, cells := 0, slots := 0, locals := 0 } : Room) s mt args below meth cd s₁ [] 0 0 := Stand.of_body Bd
  have e0 : s₁.heap = h0 := by rw [← hh, Bd.state]; rfl
  have N0 := Fr.nil n0
  show Win p e below (Ends s (Q_cmp5_4 Z a b ka kb x0 x1 x2 x3 h0 n0) ({ frames := 0, cells := 0, slots := 0, locals := 0 } : Room).cells ({ frames := 0, cells := 0, slots := 0, locals := 0 } : Room).slots) s₁ (entryFrame mt args 7)
  rw [hA, ef_cmp5_4]
  refine Win.st ?_ (fun tq kq => XS.iconst X0.here hx rfl (hb hby d_jdk_52_method_21_0) kq)
  show Win p e below _ s₁ (mkF mt 1 #[.val (.ref a), .val (.int (0 : Int32)), .val (.ref b), .val (.int (0 : Int32)), .val (.int (4 : Int32)), .unset, .unset] [(.int (0 : Int32))])
  refine Win.st ?_ (fun tq kq => XS.istore X0.here hx rfl (hb hby d_jdk_52_method_21_1) rfl (l' := #[.val (.ref a), .val (.int (0 : Int32)), .val (.ref b), .val (.int (0 : Int32)), .val (.int (4 : Int32)), .val (.int (0 : Int32)), .unset]) rfl kq)
  show Win p e below _ s₁ (mkF mt 3 #[.val (.ref a), .val (.int (0 : Int32)), .val (.ref b), .val (.int (0 : Int32)), .val (.int (4 : Int32)), .val (.int (0 : Int32)), .unset] [])
  refine Win.st ?_ (fun tq kq => XS.iload X0.here hx rfl (hb hby d_jdk_52_method_21_3) rfl kq)
  show Win p e below _ s₁ (mkF mt 5 #[.val (.ref a), .val (.int (0 : Int32)), .val (.ref b), .val (.int (0 : Int32)), .val (.int (4 : Int32)), .val (.int (0 : Int32)), .unset] [(.int (0 : Int32))])
  refine Win.st ?_ (fun tq kq => XS.iload X0.here hx rfl (hb hby d_jdk_52_method_21_5) rfl kq)
  show Win p e below _ s₁ (mkF mt 7 #[.val (.ref a), .val (.int (0 : Int32)), .val (.ref b), .val (.int (0 : Int32)), .val (.int (4 : Int32)), .val (.int (0 : Int32)), .unset] [(.int (4 : Int32)), (.int (0 : Int32))])
  refine Win.st ?_ (fun tq kq => XS.icmpNo X0.here hx rfl (hb hby d_jdk_52_method_21_7) rfl (tlt (by decide : (0 : Int32) < (4 : Int32))).2.1 kq)
  show Win p e below _ s₁ (mkF mt 10 #[.val (.ref a), .val (.int (0 : Int32)), .val (.ref b), .val (.int (0 : Int32)), .val (.int (4 : Int32)), .val (.int (0 : Int32)), .unset] [])
  refine Win.st ?_ (fun tq kq => XS.aloadN X0.here hx rfl (hb hby d_jdk_52_method_21_10) rfl rfl kq)
  show Win p e below _ s₁ (mkF mt 11 #[.val (.ref a), .val (.int (0 : Int32)), .val (.ref b), .val (.int (0 : Int32)), .val (.int (4 : Int32)), .val (.int (0 : Int32)), .unset] [(.ref a)])
  refine Win.st ?_ (fun tq kq => XS.iloadN X0.here hx rfl (hb hby d_jdk_52_method_21_11) rfl kq)
  show Win p e below _ s₁ (mkF mt 12 #[.val (.ref a), .val (.int (0 : Int32)), .val (.ref b), .val (.int (0 : Int32)), .val (.int (4 : Int32)), .val (.int (0 : Int32)), .unset] [(.int (0 : Int32)), (.ref a)])
  refine Win.st ?_ (own_cald (g := (mkF mt 12 #[.val (.ref a), .val (.int (0 : Int32)), .val (.ref b), .val (.int (0 : Int32)), .val (.int (4 : Int32)), .val (.int (0 : Int32)), .unset] [(.int (0 : Int32)), (.ref a)])) X0 hx hZ e0 VA (j := (0 : Int32)) (v := (.int x0)) (by decide) (by decide) rfl rfl rfl (hb hby d_jdk_52_method_21_12))
  show Win p e below _ s₁ (mkF mt 13 #[.val (.ref a), .val (.int (0 : Int32)), .val (.ref b), .val (.int (0 : Int32)), .val (.int (4 : Int32)), .val (.int (0 : Int32)), .unset] [(.int x0)])
  refine Win.st ?_ (fun tq kq => XS.istore X0.here hx rfl (hb hby d_jdk_52_method_21_13) rfl (l' := #[.val (.ref a), .val (.int (0 : Int32)), .val (.ref b), .val (.int (0 : Int32)), .val (.int (4 : Int32)), .val (.int (0 : Int32)), .val (.int x0)]) rfl kq)
  show Win p e below _ s₁ (mkF mt 15 #[.val (.ref a), .val (.int (0 : Int32)), .val (.ref b), .val (.int (0 : Int32)), .val (.int (4 : Int32)), .val (.int (0 : Int32)), .val (.int x0)] [])
  refine Win.st ?_ (fun tq kq => XS.iload X0.here hx rfl (hb hby d_jdk_52_method_21_15) rfl kq)
  show Win p e below _ s₁ (mkF mt 17 #[.val (.ref a), .val (.int (0 : Int32)), .val (.ref b), .val (.int (0 : Int32)), .val (.int (4 : Int32)), .val (.int (0 : Int32)), .val (.int x0)] [(.int x0)])
  refine Win.st ?_ (fun tq kq => XS.sipush X0.here hx rfl (hb hby d_jdk_52_method_21_17) kq)
  show Win p e below _ s₁ (mkF mt 20 #[.val (.ref a), .val (.int (0 : Int32)), .val (.ref b), .val (.int (0 : Int32)), .val (.int (4 : Int32)), .val (.int (0 : Int32)), .val (.int x0)] [(.int (255 : Int32)), (.int x0)])
  refine Win.st ?_ (fun tq kq => XS.icmpYes X0.here hx rfl (pc0 := 20) (pc' := 26) rfl (hb hby d_jdk_52_method_21_20) rfl (flt (own_nlt (by rw [own_i255]; exact hp0.2))).2.2.2 (by decide) (by decide) kq)
  show Win p e below _ s₁ (mkF mt 26 #[.val (.ref a), .val (.int (0 : Int32)), .val (.ref b), .val (.int (0 : Int32)), .val (.int (4 : Int32)), .val (.int (0 : Int32)), .val (.int x0)] [])
  refine Win.st ?_ (fun tq kq => XS.aloadN X0.here hx rfl (hb hby d_jdk_52_method_21_26) rfl rfl kq)
  show Win p e below _ s₁ (mkF mt 27 #[.val (.ref a), .val (.int (0 : Int32)), .val (.ref b), .val (.int (0 : Int32)), .val (.int (4 : Int32)), .val (.int (0 : Int32)), .val (.int x0)] [(.ref b)])
  refine Win.st ?_ (fun tq kq => XS.iloadN X0.here hx rfl (hb hby d_jdk_52_method_21_27) rfl kq)
  show Win p e below _ s₁ (mkF mt 28 #[.val (.ref a), .val (.int (0 : Int32)), .val (.ref b), .val (.int (0 : Int32)), .val (.int (4 : Int32)), .val (.int (0 : Int32)), .val (.int x0)] [(.int (0 : Int32)), (.ref b)])
  refine Win.st ?_ (fun tq kq => XS.iload X0.here hx rfl (hb hby d_jdk_52_method_21_28) rfl kq)
  show Win p e below _ s₁ (mkF mt 30 #[.val (.ref a), .val (.int (0 : Int32)), .val (.ref b), .val (.int (0 : Int32)), .val (.int (4 : Int32)), .val (.int (0 : Int32)), .val (.int x0)] [(.int x0), (.int (0 : Int32)), (.ref b)])
  refine Win.st ?_ (fun tq kq => XS.i2b X0.here hx rfl (hb hby d_jdk_52_method_21_30) rfl kq)
  show Win p e below _ s₁ (mkF mt 31 #[.val (.ref a), .val (.int (0 : Int32)), .val (.ref b), .val (.int (0 : Int32)), .val (.int (4 : Int32)), .val (.int (0 : Int32)), .val (.int x0)] [(.int (x0.toInt8.toInt32)), (.int (0 : Int32)), (.ref b)])
  obtain ⟨T260, h260, L260, X260, N260, e260, kp260, V260, st260⟩ := own_bast (g := (mkF mt 31 #[.val (.ref a), .val (.int (0 : Int32)), .val (.ref b), .val (.int (0 : Int32)), .val (.int (4 : Int32)), .val (.int (0 : Int32)), .val (.int x0)] [(.int (x0.toInt8.toInt32)), (.int (0 : Int32)), (.ref b)])) X0 hx hZ e0 N0 gb VB (j := (0 : Int32)) (by decide) (by decide) (i := 0) rfl (by simp) rfl rfl (hb hby d_jdk_52_method_21_31)
  rw [own_b8] at V260
  replace V260 : Arv Z h260 b kb .byte (4 : Int32) ([(.int (x0.toInt8.toInt32)), (.int (0 : Int32)), (.int (0 : Int32)), (.int (0 : Int32))]) (.int (0 : Int32)) := V260
  have f261_35 := VA.keep kp260 (ninS nab nin0)
  have Z262 : n0 ≤ h260.size := Nat.le_trans Z0 kp260.1
  have K263 : Keep h0 h260 [b] := Keep.trans (Keep.refl h0 [b]) kp260 (allS (Or.inl (List.mem_of_getElem? (i := 0) rfl)) all0)
  refine Win.st ?_ st260
  show Win p e below _ T260 (mkF mt 32 #[.val (.ref a), .val (.int (0 : Int32)), .val (.ref b), .val (.int (0 : Int32)), .val (.int (4 : Int32)), .val (.int (0 : Int32)), .val (.int x0)] [])
  refine Win.st ?_ (fun tq kq => XS.iinc X260.here hx rfl (hb hby d_jdk_52_method_21_32) rfl (l' := #[.val (.ref a), .val (.int (1 : Int32)), .val (.ref b), .val (.int (0 : Int32)), .val (.int (4 : Int32)), .val (.int (0 : Int32)), .val (.int x0)]) rfl kq)
  show Win p e below _ T260 (mkF mt 35 #[.val (.ref a), .val (.int (1 : Int32)), .val (.ref b), .val (.int (0 : Int32)), .val (.int (4 : Int32)), .val (.int (0 : Int32)), .val (.int x0)] [])
  refine Win.st ?_ (fun tq kq => XS.iinc X260.here hx rfl (hb hby d_jdk_52_method_21_35) rfl (l' := #[.val (.ref a), .val (.int (1 : Int32)), .val (.ref b), .val (.int (1 : Int32)), .val (.int (4 : Int32)), .val (.int (0 : Int32)), .val (.int x0)]) rfl kq)
  show Win p e below _ T260 (mkF mt 38 #[.val (.ref a), .val (.int (1 : Int32)), .val (.ref b), .val (.int (1 : Int32)), .val (.int (4 : Int32)), .val (.int (0 : Int32)), .val (.int x0)] [])
  refine Win.st ?_ (fun tq kq => XS.iinc X260.here hx rfl (hb hby d_jdk_52_method_21_38) rfl (l' := #[.val (.ref a), .val (.int (1 : Int32)), .val (.ref b), .val (.int (1 : Int32)), .val (.int (4 : Int32)), .val (.int (1 : Int32)), .val (.int x0)]) rfl kq)
  show Win p e below _ T260 (mkF mt 41 #[.val (.ref a), .val (.int (1 : Int32)), .val (.ref b), .val (.int (1 : Int32)), .val (.int (4 : Int32)), .val (.int (1 : Int32)), .val (.int x0)] [])
  refine Win.st ?_ (fun tq kq => XS.goto X260.here hx rfl (pc0 := 41) (pc' := 3) rfl (hb hby d_jdk_52_method_21_41) (by decide) (by decide) kq)
  show Win p e below _ T260 (mkF mt 3 #[.val (.ref a), .val (.int (1 : Int32)), .val (.ref b), .val (.int (1 : Int32)), .val (.int (4 : Int32)), .val (.int (1 : Int32)), .val (.int x0)] [])
  refine Win.st ?_ (fun tq kq => XS.iload X260.here hx rfl (hb hby d_jdk_52_method_21_3) rfl kq)
  show Win p e below _ T260 (mkF mt 5 #[.val (.ref a), .val (.int (1 : Int32)), .val (.ref b), .val (.int (1 : Int32)), .val (.int (4 : Int32)), .val (.int (1 : Int32)), .val (.int x0)] [(.int (1 : Int32))])
  refine Win.st ?_ (fun tq kq => XS.iload X260.here hx rfl (hb hby d_jdk_52_method_21_5) rfl kq)
  show Win p e below _ T260 (mkF mt 7 #[.val (.ref a), .val (.int (1 : Int32)), .val (.ref b), .val (.int (1 : Int32)), .val (.int (4 : Int32)), .val (.int (1 : Int32)), .val (.int x0)] [(.int (4 : Int32)), (.int (1 : Int32))])
  refine Win.st ?_ (fun tq kq => XS.icmpNo X260.here hx rfl (hb hby d_jdk_52_method_21_7) rfl (tlt (by decide : (1 : Int32) < (4 : Int32))).2.1 kq)
  show Win p e below _ T260 (mkF mt 10 #[.val (.ref a), .val (.int (1 : Int32)), .val (.ref b), .val (.int (1 : Int32)), .val (.int (4 : Int32)), .val (.int (1 : Int32)), .val (.int x0)] [])
  refine Win.st ?_ (fun tq kq => XS.aloadN X260.here hx rfl (hb hby d_jdk_52_method_21_10) rfl rfl kq)
  show Win p e below _ T260 (mkF mt 11 #[.val (.ref a), .val (.int (1 : Int32)), .val (.ref b), .val (.int (1 : Int32)), .val (.int (4 : Int32)), .val (.int (1 : Int32)), .val (.int x0)] [(.ref a)])
  refine Win.st ?_ (fun tq kq => XS.iloadN X260.here hx rfl (hb hby d_jdk_52_method_21_11) rfl kq)
  show Win p e below _ T260 (mkF mt 12 #[.val (.ref a), .val (.int (1 : Int32)), .val (.ref b), .val (.int (1 : Int32)), .val (.int (4 : Int32)), .val (.int (1 : Int32)), .val (.int x0)] [(.int (1 : Int32)), (.ref a)])
  refine Win.st ?_ (own_cald (g := (mkF mt 12 #[.val (.ref a), .val (.int (1 : Int32)), .val (.ref b), .val (.int (1 : Int32)), .val (.int (4 : Int32)), .val (.int (1 : Int32)), .val (.int x0)] [(.int (1 : Int32)), (.ref a)])) X260 hx hZ e260 f261_35 (j := (1 : Int32)) (v := (.int x1)) (by decide) (by decide) rfl rfl rfl (hb hby d_jdk_52_method_21_12))
  show Win p e below _ T260 (mkF mt 13 #[.val (.ref a), .val (.int (1 : Int32)), .val (.ref b), .val (.int (1 : Int32)), .val (.int (4 : Int32)), .val (.int (1 : Int32)), .val (.int x0)] [(.int x1)])
  refine Win.st ?_ (fun tq kq => XS.istore X260.here hx rfl (hb hby d_jdk_52_method_21_13) rfl (l' := #[.val (.ref a), .val (.int (1 : Int32)), .val (.ref b), .val (.int (1 : Int32)), .val (.int (4 : Int32)), .val (.int (1 : Int32)), .val (.int x1)]) rfl kq)
  show Win p e below _ T260 (mkF mt 15 #[.val (.ref a), .val (.int (1 : Int32)), .val (.ref b), .val (.int (1 : Int32)), .val (.int (4 : Int32)), .val (.int (1 : Int32)), .val (.int x1)] [])
  refine Win.st ?_ (fun tq kq => XS.iload X260.here hx rfl (hb hby d_jdk_52_method_21_15) rfl kq)
  show Win p e below _ T260 (mkF mt 17 #[.val (.ref a), .val (.int (1 : Int32)), .val (.ref b), .val (.int (1 : Int32)), .val (.int (4 : Int32)), .val (.int (1 : Int32)), .val (.int x1)] [(.int x1)])
  refine Win.st ?_ (fun tq kq => XS.sipush X260.here hx rfl (hb hby d_jdk_52_method_21_17) kq)
  show Win p e below _ T260 (mkF mt 20 #[.val (.ref a), .val (.int (1 : Int32)), .val (.ref b), .val (.int (1 : Int32)), .val (.int (4 : Int32)), .val (.int (1 : Int32)), .val (.int x1)] [(.int (255 : Int32)), (.int x1)])
  refine Win.st ?_ (fun tq kq => XS.icmpYes X260.here hx rfl (pc0 := 20) (pc' := 26) rfl (hb hby d_jdk_52_method_21_20) rfl (flt (own_nlt (by rw [own_i255]; exact hp1.2))).2.2.2 (by decide) (by decide) kq)
  show Win p e below _ T260 (mkF mt 26 #[.val (.ref a), .val (.int (1 : Int32)), .val (.ref b), .val (.int (1 : Int32)), .val (.int (4 : Int32)), .val (.int (1 : Int32)), .val (.int x1)] [])
  refine Win.st ?_ (fun tq kq => XS.aloadN X260.here hx rfl (hb hby d_jdk_52_method_21_26) rfl rfl kq)
  show Win p e below _ T260 (mkF mt 27 #[.val (.ref a), .val (.int (1 : Int32)), .val (.ref b), .val (.int (1 : Int32)), .val (.int (4 : Int32)), .val (.int (1 : Int32)), .val (.int x1)] [(.ref b)])
  refine Win.st ?_ (fun tq kq => XS.iloadN X260.here hx rfl (hb hby d_jdk_52_method_21_27) rfl kq)
  show Win p e below _ T260 (mkF mt 28 #[.val (.ref a), .val (.int (1 : Int32)), .val (.ref b), .val (.int (1 : Int32)), .val (.int (4 : Int32)), .val (.int (1 : Int32)), .val (.int x1)] [(.int (1 : Int32)), (.ref b)])
  refine Win.st ?_ (fun tq kq => XS.iload X260.here hx rfl (hb hby d_jdk_52_method_21_28) rfl kq)
  show Win p e below _ T260 (mkF mt 30 #[.val (.ref a), .val (.int (1 : Int32)), .val (.ref b), .val (.int (1 : Int32)), .val (.int (4 : Int32)), .val (.int (1 : Int32)), .val (.int x1)] [(.int x1), (.int (1 : Int32)), (.ref b)])
  refine Win.st ?_ (fun tq kq => XS.i2b X260.here hx rfl (hb hby d_jdk_52_method_21_30) rfl kq)
  show Win p e below _ T260 (mkF mt 31 #[.val (.ref a), .val (.int (1 : Int32)), .val (.ref b), .val (.int (1 : Int32)), .val (.int (4 : Int32)), .val (.int (1 : Int32)), .val (.int x1)] [(.int (x1.toInt8.toInt32)), (.int (1 : Int32)), (.ref b)])
  obtain ⟨T264, h264, L264, X264, N264, e264, kp264, V264, st264⟩ := own_bast (g := (mkF mt 31 #[.val (.ref a), .val (.int (1 : Int32)), .val (.ref b), .val (.int (1 : Int32)), .val (.int (4 : Int32)), .val (.int (1 : Int32)), .val (.int x1)] [(.int (x1.toInt8.toInt32)), (.int (1 : Int32)), (.ref b)])) X260 hx hZ e260 N260 gb V260 (j := (1 : Int32)) (by decide) (by decide) (i := 1) rfl (by simp) rfl rfl (hb hby d_jdk_52_method_21_31)
  rw [own_b8] at V264
  replace V264 : Arv Z h264 b kb .byte (4 : Int32) ([(.int (x0.toInt8.toInt32)), (.int (x1.toInt8.toInt32)), (.int (0 : Int32)), (.int (0 : Int32))]) (.int (0 : Int32)) := V264
  have f265_79 := f261_35.keep kp264 (ninS nab nin0)
  have Z266 : n0 ≤ h264.size := Nat.le_trans Z262 kp264.1
  have K267 : Keep h0 h264 [b] := Keep.trans K263 kp264 (allS (Or.inl (List.mem_of_getElem? (i := 0) rfl)) all0)
  refine Win.st ?_ st264
  show Win p e below _ T264 (mkF mt 32 #[.val (.ref a), .val (.int (1 : Int32)), .val (.ref b), .val (.int (1 : Int32)), .val (.int (4 : Int32)), .val (.int (1 : Int32)), .val (.int x1)] [])
  refine Win.st ?_ (fun tq kq => XS.iinc X264.here hx rfl (hb hby d_jdk_52_method_21_32) rfl (l' := #[.val (.ref a), .val (.int (2 : Int32)), .val (.ref b), .val (.int (1 : Int32)), .val (.int (4 : Int32)), .val (.int (1 : Int32)), .val (.int x1)]) rfl kq)
  show Win p e below _ T264 (mkF mt 35 #[.val (.ref a), .val (.int (2 : Int32)), .val (.ref b), .val (.int (1 : Int32)), .val (.int (4 : Int32)), .val (.int (1 : Int32)), .val (.int x1)] [])
  refine Win.st ?_ (fun tq kq => XS.iinc X264.here hx rfl (hb hby d_jdk_52_method_21_35) rfl (l' := #[.val (.ref a), .val (.int (2 : Int32)), .val (.ref b), .val (.int (2 : Int32)), .val (.int (4 : Int32)), .val (.int (1 : Int32)), .val (.int x1)]) rfl kq)
  show Win p e below _ T264 (mkF mt 38 #[.val (.ref a), .val (.int (2 : Int32)), .val (.ref b), .val (.int (2 : Int32)), .val (.int (4 : Int32)), .val (.int (1 : Int32)), .val (.int x1)] [])
  refine Win.st ?_ (fun tq kq => XS.iinc X264.here hx rfl (hb hby d_jdk_52_method_21_38) rfl (l' := #[.val (.ref a), .val (.int (2 : Int32)), .val (.ref b), .val (.int (2 : Int32)), .val (.int (4 : Int32)), .val (.int (2 : Int32)), .val (.int x1)]) rfl kq)
  show Win p e below _ T264 (mkF mt 41 #[.val (.ref a), .val (.int (2 : Int32)), .val (.ref b), .val (.int (2 : Int32)), .val (.int (4 : Int32)), .val (.int (2 : Int32)), .val (.int x1)] [])
  refine Win.st ?_ (fun tq kq => XS.goto X264.here hx rfl (pc0 := 41) (pc' := 3) rfl (hb hby d_jdk_52_method_21_41) (by decide) (by decide) kq)
  show Win p e below _ T264 (mkF mt 3 #[.val (.ref a), .val (.int (2 : Int32)), .val (.ref b), .val (.int (2 : Int32)), .val (.int (4 : Int32)), .val (.int (2 : Int32)), .val (.int x1)] [])
  refine Win.st ?_ (fun tq kq => XS.iload X264.here hx rfl (hb hby d_jdk_52_method_21_3) rfl kq)
  show Win p e below _ T264 (mkF mt 5 #[.val (.ref a), .val (.int (2 : Int32)), .val (.ref b), .val (.int (2 : Int32)), .val (.int (4 : Int32)), .val (.int (2 : Int32)), .val (.int x1)] [(.int (2 : Int32))])
  refine Win.st ?_ (fun tq kq => XS.iload X264.here hx rfl (hb hby d_jdk_52_method_21_5) rfl kq)
  show Win p e below _ T264 (mkF mt 7 #[.val (.ref a), .val (.int (2 : Int32)), .val (.ref b), .val (.int (2 : Int32)), .val (.int (4 : Int32)), .val (.int (2 : Int32)), .val (.int x1)] [(.int (4 : Int32)), (.int (2 : Int32))])
  refine Win.st ?_ (fun tq kq => XS.icmpNo X264.here hx rfl (hb hby d_jdk_52_method_21_7) rfl (tlt (by decide : (2 : Int32) < (4 : Int32))).2.1 kq)
  show Win p e below _ T264 (mkF mt 10 #[.val (.ref a), .val (.int (2 : Int32)), .val (.ref b), .val (.int (2 : Int32)), .val (.int (4 : Int32)), .val (.int (2 : Int32)), .val (.int x1)] [])
  refine Win.st ?_ (fun tq kq => XS.aloadN X264.here hx rfl (hb hby d_jdk_52_method_21_10) rfl rfl kq)
  show Win p e below _ T264 (mkF mt 11 #[.val (.ref a), .val (.int (2 : Int32)), .val (.ref b), .val (.int (2 : Int32)), .val (.int (4 : Int32)), .val (.int (2 : Int32)), .val (.int x1)] [(.ref a)])
  refine Win.st ?_ (fun tq kq => XS.iloadN X264.here hx rfl (hb hby d_jdk_52_method_21_11) rfl kq)
  show Win p e below _ T264 (mkF mt 12 #[.val (.ref a), .val (.int (2 : Int32)), .val (.ref b), .val (.int (2 : Int32)), .val (.int (4 : Int32)), .val (.int (2 : Int32)), .val (.int x1)] [(.int (2 : Int32)), (.ref a)])
  refine Win.st ?_ (own_cald (g := (mkF mt 12 #[.val (.ref a), .val (.int (2 : Int32)), .val (.ref b), .val (.int (2 : Int32)), .val (.int (4 : Int32)), .val (.int (2 : Int32)), .val (.int x1)] [(.int (2 : Int32)), (.ref a)])) X264 hx hZ e264 f265_79 (j := (2 : Int32)) (v := (.int x2)) (by decide) (by decide) rfl rfl rfl (hb hby d_jdk_52_method_21_12))
  show Win p e below _ T264 (mkF mt 13 #[.val (.ref a), .val (.int (2 : Int32)), .val (.ref b), .val (.int (2 : Int32)), .val (.int (4 : Int32)), .val (.int (2 : Int32)), .val (.int x1)] [(.int x2)])
  refine Win.st ?_ (fun tq kq => XS.istore X264.here hx rfl (hb hby d_jdk_52_method_21_13) rfl (l' := #[.val (.ref a), .val (.int (2 : Int32)), .val (.ref b), .val (.int (2 : Int32)), .val (.int (4 : Int32)), .val (.int (2 : Int32)), .val (.int x2)]) rfl kq)
  show Win p e below _ T264 (mkF mt 15 #[.val (.ref a), .val (.int (2 : Int32)), .val (.ref b), .val (.int (2 : Int32)), .val (.int (4 : Int32)), .val (.int (2 : Int32)), .val (.int x2)] [])
  refine Win.st ?_ (fun tq kq => XS.iload X264.here hx rfl (hb hby d_jdk_52_method_21_15) rfl kq)
  show Win p e below _ T264 (mkF mt 17 #[.val (.ref a), .val (.int (2 : Int32)), .val (.ref b), .val (.int (2 : Int32)), .val (.int (4 : Int32)), .val (.int (2 : Int32)), .val (.int x2)] [(.int x2)])
  refine Win.st ?_ (fun tq kq => XS.sipush X264.here hx rfl (hb hby d_jdk_52_method_21_17) kq)
  show Win p e below _ T264 (mkF mt 20 #[.val (.ref a), .val (.int (2 : Int32)), .val (.ref b), .val (.int (2 : Int32)), .val (.int (4 : Int32)), .val (.int (2 : Int32)), .val (.int x2)] [(.int (255 : Int32)), (.int x2)])
  refine Win.st ?_ (fun tq kq => XS.icmpYes X264.here hx rfl (pc0 := 20) (pc' := 26) rfl (hb hby d_jdk_52_method_21_20) rfl (flt (own_nlt (by rw [own_i255]; exact hp2.2))).2.2.2 (by decide) (by decide) kq)
  show Win p e below _ T264 (mkF mt 26 #[.val (.ref a), .val (.int (2 : Int32)), .val (.ref b), .val (.int (2 : Int32)), .val (.int (4 : Int32)), .val (.int (2 : Int32)), .val (.int x2)] [])
  refine Win.st ?_ (fun tq kq => XS.aloadN X264.here hx rfl (hb hby d_jdk_52_method_21_26) rfl rfl kq)
  show Win p e below _ T264 (mkF mt 27 #[.val (.ref a), .val (.int (2 : Int32)), .val (.ref b), .val (.int (2 : Int32)), .val (.int (4 : Int32)), .val (.int (2 : Int32)), .val (.int x2)] [(.ref b)])
  refine Win.st ?_ (fun tq kq => XS.iloadN X264.here hx rfl (hb hby d_jdk_52_method_21_27) rfl kq)
  show Win p e below _ T264 (mkF mt 28 #[.val (.ref a), .val (.int (2 : Int32)), .val (.ref b), .val (.int (2 : Int32)), .val (.int (4 : Int32)), .val (.int (2 : Int32)), .val (.int x2)] [(.int (2 : Int32)), (.ref b)])
  refine Win.st ?_ (fun tq kq => XS.iload X264.here hx rfl (hb hby d_jdk_52_method_21_28) rfl kq)
  show Win p e below _ T264 (mkF mt 30 #[.val (.ref a), .val (.int (2 : Int32)), .val (.ref b), .val (.int (2 : Int32)), .val (.int (4 : Int32)), .val (.int (2 : Int32)), .val (.int x2)] [(.int x2), (.int (2 : Int32)), (.ref b)])
  refine Win.st ?_ (fun tq kq => XS.i2b X264.here hx rfl (hb hby d_jdk_52_method_21_30) rfl kq)
  show Win p e below _ T264 (mkF mt 31 #[.val (.ref a), .val (.int (2 : Int32)), .val (.ref b), .val (.int (2 : Int32)), .val (.int (4 : Int32)), .val (.int (2 : Int32)), .val (.int x2)] [(.int (x2.toInt8.toInt32)), (.int (2 : Int32)), (.ref b)])
  obtain ⟨T268, h268, L268, X268, N268, e268, kp268, V268, st268⟩ := own_bast (g := (mkF mt 31 #[.val (.ref a), .val (.int (2 : Int32)), .val (.ref b), .val (.int (2 : Int32)), .val (.int (4 : Int32)), .val (.int (2 : Int32)), .val (.int x2)] [(.int (x2.toInt8.toInt32)), (.int (2 : Int32)), (.ref b)])) X264 hx hZ e264 N264 gb V264 (j := (2 : Int32)) (by decide) (by decide) (i := 2) rfl (by simp) rfl rfl (hb hby d_jdk_52_method_21_31)
  rw [own_b8] at V268
  replace V268 : Arv Z h268 b kb .byte (4 : Int32) ([(.int (x0.toInt8.toInt32)), (.int (x1.toInt8.toInt32)), (.int (x2.toInt8.toInt32)), (.int (0 : Int32))]) (.int (0 : Int32)) := V268
  have f269_123 := f265_79.keep kp268 (ninS nab nin0)
  have Z270 : n0 ≤ h268.size := Nat.le_trans Z266 kp268.1
  have K271 : Keep h0 h268 [b] := Keep.trans K267 kp268 (allS (Or.inl (List.mem_of_getElem? (i := 0) rfl)) all0)
  refine Win.st ?_ st268
  show Win p e below _ T268 (mkF mt 32 #[.val (.ref a), .val (.int (2 : Int32)), .val (.ref b), .val (.int (2 : Int32)), .val (.int (4 : Int32)), .val (.int (2 : Int32)), .val (.int x2)] [])
  refine Win.st ?_ (fun tq kq => XS.iinc X268.here hx rfl (hb hby d_jdk_52_method_21_32) rfl (l' := #[.val (.ref a), .val (.int (3 : Int32)), .val (.ref b), .val (.int (2 : Int32)), .val (.int (4 : Int32)), .val (.int (2 : Int32)), .val (.int x2)]) rfl kq)
  show Win p e below _ T268 (mkF mt 35 #[.val (.ref a), .val (.int (3 : Int32)), .val (.ref b), .val (.int (2 : Int32)), .val (.int (4 : Int32)), .val (.int (2 : Int32)), .val (.int x2)] [])
  refine Win.st ?_ (fun tq kq => XS.iinc X268.here hx rfl (hb hby d_jdk_52_method_21_35) rfl (l' := #[.val (.ref a), .val (.int (3 : Int32)), .val (.ref b), .val (.int (3 : Int32)), .val (.int (4 : Int32)), .val (.int (2 : Int32)), .val (.int x2)]) rfl kq)
  show Win p e below _ T268 (mkF mt 38 #[.val (.ref a), .val (.int (3 : Int32)), .val (.ref b), .val (.int (3 : Int32)), .val (.int (4 : Int32)), .val (.int (2 : Int32)), .val (.int x2)] [])
  refine Win.st ?_ (fun tq kq => XS.iinc X268.here hx rfl (hb hby d_jdk_52_method_21_38) rfl (l' := #[.val (.ref a), .val (.int (3 : Int32)), .val (.ref b), .val (.int (3 : Int32)), .val (.int (4 : Int32)), .val (.int (3 : Int32)), .val (.int x2)]) rfl kq)
  show Win p e below _ T268 (mkF mt 41 #[.val (.ref a), .val (.int (3 : Int32)), .val (.ref b), .val (.int (3 : Int32)), .val (.int (4 : Int32)), .val (.int (3 : Int32)), .val (.int x2)] [])
  refine Win.st ?_ (fun tq kq => XS.goto X268.here hx rfl (pc0 := 41) (pc' := 3) rfl (hb hby d_jdk_52_method_21_41) (by decide) (by decide) kq)
  show Win p e below _ T268 (mkF mt 3 #[.val (.ref a), .val (.int (3 : Int32)), .val (.ref b), .val (.int (3 : Int32)), .val (.int (4 : Int32)), .val (.int (3 : Int32)), .val (.int x2)] [])
  refine Win.st ?_ (fun tq kq => XS.iload X268.here hx rfl (hb hby d_jdk_52_method_21_3) rfl kq)
  show Win p e below _ T268 (mkF mt 5 #[.val (.ref a), .val (.int (3 : Int32)), .val (.ref b), .val (.int (3 : Int32)), .val (.int (4 : Int32)), .val (.int (3 : Int32)), .val (.int x2)] [(.int (3 : Int32))])
  refine Win.st ?_ (fun tq kq => XS.iload X268.here hx rfl (hb hby d_jdk_52_method_21_5) rfl kq)
  show Win p e below _ T268 (mkF mt 7 #[.val (.ref a), .val (.int (3 : Int32)), .val (.ref b), .val (.int (3 : Int32)), .val (.int (4 : Int32)), .val (.int (3 : Int32)), .val (.int x2)] [(.int (4 : Int32)), (.int (3 : Int32))])
  refine Win.st ?_ (fun tq kq => XS.icmpNo X268.here hx rfl (hb hby d_jdk_52_method_21_7) rfl (tlt (by decide : (3 : Int32) < (4 : Int32))).2.1 kq)
  show Win p e below _ T268 (mkF mt 10 #[.val (.ref a), .val (.int (3 : Int32)), .val (.ref b), .val (.int (3 : Int32)), .val (.int (4 : Int32)), .val (.int (3 : Int32)), .val (.int x2)] [])
  refine Win.st ?_ (fun tq kq => XS.aloadN X268.here hx rfl (hb hby d_jdk_52_method_21_10) rfl rfl kq)
  show Win p e below _ T268 (mkF mt 11 #[.val (.ref a), .val (.int (3 : Int32)), .val (.ref b), .val (.int (3 : Int32)), .val (.int (4 : Int32)), .val (.int (3 : Int32)), .val (.int x2)] [(.ref a)])
  refine Win.st ?_ (fun tq kq => XS.iloadN X268.here hx rfl (hb hby d_jdk_52_method_21_11) rfl kq)
  show Win p e below _ T268 (mkF mt 12 #[.val (.ref a), .val (.int (3 : Int32)), .val (.ref b), .val (.int (3 : Int32)), .val (.int (4 : Int32)), .val (.int (3 : Int32)), .val (.int x2)] [(.int (3 : Int32)), (.ref a)])
  refine Win.st ?_ (own_cald (g := (mkF mt 12 #[.val (.ref a), .val (.int (3 : Int32)), .val (.ref b), .val (.int (3 : Int32)), .val (.int (4 : Int32)), .val (.int (3 : Int32)), .val (.int x2)] [(.int (3 : Int32)), (.ref a)])) X268 hx hZ e268 f269_123 (j := (3 : Int32)) (v := (.int x3)) (by decide) (by decide) rfl rfl rfl (hb hby d_jdk_52_method_21_12))
  show Win p e below _ T268 (mkF mt 13 #[.val (.ref a), .val (.int (3 : Int32)), .val (.ref b), .val (.int (3 : Int32)), .val (.int (4 : Int32)), .val (.int (3 : Int32)), .val (.int x2)] [(.int x3)])
  refine Win.st ?_ (fun tq kq => XS.istore X268.here hx rfl (hb hby d_jdk_52_method_21_13) rfl (l' := #[.val (.ref a), .val (.int (3 : Int32)), .val (.ref b), .val (.int (3 : Int32)), .val (.int (4 : Int32)), .val (.int (3 : Int32)), .val (.int x3)]) rfl kq)
  show Win p e below _ T268 (mkF mt 15 #[.val (.ref a), .val (.int (3 : Int32)), .val (.ref b), .val (.int (3 : Int32)), .val (.int (4 : Int32)), .val (.int (3 : Int32)), .val (.int x3)] [])
  refine Win.st ?_ (fun tq kq => XS.iload X268.here hx rfl (hb hby d_jdk_52_method_21_15) rfl kq)
  show Win p e below _ T268 (mkF mt 17 #[.val (.ref a), .val (.int (3 : Int32)), .val (.ref b), .val (.int (3 : Int32)), .val (.int (4 : Int32)), .val (.int (3 : Int32)), .val (.int x3)] [(.int x3)])
  refine Win.st ?_ (fun tq kq => XS.sipush X268.here hx rfl (hb hby d_jdk_52_method_21_17) kq)
  show Win p e below _ T268 (mkF mt 20 #[.val (.ref a), .val (.int (3 : Int32)), .val (.ref b), .val (.int (3 : Int32)), .val (.int (4 : Int32)), .val (.int (3 : Int32)), .val (.int x3)] [(.int (255 : Int32)), (.int x3)])
  refine Win.st ?_ (fun tq kq => XS.icmpYes X268.here hx rfl (pc0 := 20) (pc' := 26) rfl (hb hby d_jdk_52_method_21_20) rfl (flt (own_nlt (by rw [own_i255]; exact hp3.2))).2.2.2 (by decide) (by decide) kq)
  show Win p e below _ T268 (mkF mt 26 #[.val (.ref a), .val (.int (3 : Int32)), .val (.ref b), .val (.int (3 : Int32)), .val (.int (4 : Int32)), .val (.int (3 : Int32)), .val (.int x3)] [])
  refine Win.st ?_ (fun tq kq => XS.aloadN X268.here hx rfl (hb hby d_jdk_52_method_21_26) rfl rfl kq)
  show Win p e below _ T268 (mkF mt 27 #[.val (.ref a), .val (.int (3 : Int32)), .val (.ref b), .val (.int (3 : Int32)), .val (.int (4 : Int32)), .val (.int (3 : Int32)), .val (.int x3)] [(.ref b)])
  refine Win.st ?_ (fun tq kq => XS.iloadN X268.here hx rfl (hb hby d_jdk_52_method_21_27) rfl kq)
  show Win p e below _ T268 (mkF mt 28 #[.val (.ref a), .val (.int (3 : Int32)), .val (.ref b), .val (.int (3 : Int32)), .val (.int (4 : Int32)), .val (.int (3 : Int32)), .val (.int x3)] [(.int (3 : Int32)), (.ref b)])
  refine Win.st ?_ (fun tq kq => XS.iload X268.here hx rfl (hb hby d_jdk_52_method_21_28) rfl kq)
  show Win p e below _ T268 (mkF mt 30 #[.val (.ref a), .val (.int (3 : Int32)), .val (.ref b), .val (.int (3 : Int32)), .val (.int (4 : Int32)), .val (.int (3 : Int32)), .val (.int x3)] [(.int x3), (.int (3 : Int32)), (.ref b)])
  refine Win.st ?_ (fun tq kq => XS.i2b X268.here hx rfl (hb hby d_jdk_52_method_21_30) rfl kq)
  show Win p e below _ T268 (mkF mt 31 #[.val (.ref a), .val (.int (3 : Int32)), .val (.ref b), .val (.int (3 : Int32)), .val (.int (4 : Int32)), .val (.int (3 : Int32)), .val (.int x3)] [(.int (x3.toInt8.toInt32)), (.int (3 : Int32)), (.ref b)])
  obtain ⟨T272, h272, L272, X272, N272, e272, kp272, V272, st272⟩ := own_bast (g := (mkF mt 31 #[.val (.ref a), .val (.int (3 : Int32)), .val (.ref b), .val (.int (3 : Int32)), .val (.int (4 : Int32)), .val (.int (3 : Int32)), .val (.int x3)] [(.int (x3.toInt8.toInt32)), (.int (3 : Int32)), (.ref b)])) X268 hx hZ e268 N268 gb V268 (j := (3 : Int32)) (by decide) (by decide) (i := 3) rfl (by simp) rfl rfl (hb hby d_jdk_52_method_21_31)
  rw [own_b8] at V272
  replace V272 : Arv Z h272 b kb .byte (4 : Int32) ([(.int (x0.toInt8.toInt32)), (.int (x1.toInt8.toInt32)), (.int (x2.toInt8.toInt32)), (.int (x3.toInt8.toInt32))]) (.int (0 : Int32)) := V272
  have f273_167 := f269_123.keep kp272 (ninS nab nin0)
  have Z274 : n0 ≤ h272.size := Nat.le_trans Z270 kp272.1
  have K275 : Keep h0 h272 [b] := Keep.trans K271 kp272 (allS (Or.inl (List.mem_of_getElem? (i := 0) rfl)) all0)
  refine Win.st ?_ st272
  show Win p e below _ T272 (mkF mt 32 #[.val (.ref a), .val (.int (3 : Int32)), .val (.ref b), .val (.int (3 : Int32)), .val (.int (4 : Int32)), .val (.int (3 : Int32)), .val (.int x3)] [])
  refine Win.st ?_ (fun tq kq => XS.iinc X272.here hx rfl (hb hby d_jdk_52_method_21_32) rfl (l' := #[.val (.ref a), .val (.int (4 : Int32)), .val (.ref b), .val (.int (3 : Int32)), .val (.int (4 : Int32)), .val (.int (3 : Int32)), .val (.int x3)]) rfl kq)
  show Win p e below _ T272 (mkF mt 35 #[.val (.ref a), .val (.int (4 : Int32)), .val (.ref b), .val (.int (3 : Int32)), .val (.int (4 : Int32)), .val (.int (3 : Int32)), .val (.int x3)] [])
  refine Win.st ?_ (fun tq kq => XS.iinc X272.here hx rfl (hb hby d_jdk_52_method_21_35) rfl (l' := #[.val (.ref a), .val (.int (4 : Int32)), .val (.ref b), .val (.int (4 : Int32)), .val (.int (4 : Int32)), .val (.int (3 : Int32)), .val (.int x3)]) rfl kq)
  show Win p e below _ T272 (mkF mt 38 #[.val (.ref a), .val (.int (4 : Int32)), .val (.ref b), .val (.int (4 : Int32)), .val (.int (4 : Int32)), .val (.int (3 : Int32)), .val (.int x3)] [])
  refine Win.st ?_ (fun tq kq => XS.iinc X272.here hx rfl (hb hby d_jdk_52_method_21_38) rfl (l' := #[.val (.ref a), .val (.int (4 : Int32)), .val (.ref b), .val (.int (4 : Int32)), .val (.int (4 : Int32)), .val (.int (4 : Int32)), .val (.int x3)]) rfl kq)
  show Win p e below _ T272 (mkF mt 41 #[.val (.ref a), .val (.int (4 : Int32)), .val (.ref b), .val (.int (4 : Int32)), .val (.int (4 : Int32)), .val (.int (4 : Int32)), .val (.int x3)] [])
  refine Win.st ?_ (fun tq kq => XS.goto X272.here hx rfl (pc0 := 41) (pc' := 3) rfl (hb hby d_jdk_52_method_21_41) (by decide) (by decide) kq)
  show Win p e below _ T272 (mkF mt 3 #[.val (.ref a), .val (.int (4 : Int32)), .val (.ref b), .val (.int (4 : Int32)), .val (.int (4 : Int32)), .val (.int (4 : Int32)), .val (.int x3)] [])
  refine Win.st ?_ (fun tq kq => XS.iload X272.here hx rfl (hb hby d_jdk_52_method_21_3) rfl kq)
  show Win p e below _ T272 (mkF mt 5 #[.val (.ref a), .val (.int (4 : Int32)), .val (.ref b), .val (.int (4 : Int32)), .val (.int (4 : Int32)), .val (.int (4 : Int32)), .val (.int x3)] [(.int (4 : Int32))])
  refine Win.st ?_ (fun tq kq => XS.iload X272.here hx rfl (hb hby d_jdk_52_method_21_5) rfl kq)
  show Win p e below _ T272 (mkF mt 7 #[.val (.ref a), .val (.int (4 : Int32)), .val (.ref b), .val (.int (4 : Int32)), .val (.int (4 : Int32)), .val (.int (4 : Int32)), .val (.int x3)] [(.int (4 : Int32)), (.int (4 : Int32))])
  refine Win.st ?_ (fun tq kq => XS.icmpYes X272.here hx rfl (pc0 := 7) (pc' := 44) rfl (hb hby d_jdk_52_method_21_7) rfl (flt (Int32.lt_irrefl)).2.1 (by decide) (by decide) kq)
  show Win p e below _ T272 (mkF mt 44 #[.val (.ref a), .val (.int (4 : Int32)), .val (.ref b), .val (.int (4 : Int32)), .val (.int (4 : Int32)), .val (.int (4 : Int32)), .val (.int x3)] [])
  refine Win.st ?_ (fun tq kq => XS.iload X272.here hx rfl (hb hby d_jdk_52_method_21_44) rfl kq)
  show Win p e below _ T272 (mkF mt 46 #[.val (.ref a), .val (.int (4 : Int32)), .val (.ref b), .val (.int (4 : Int32)), .val (.int (4 : Int32)), .val (.int (4 : Int32)), .val (.int x3)] [(.int (4 : Int32))])
  exact Win.ret X272 hx hlk e272 hrt rfl (Or.inl ⟨rfl, Or.inl rfl, _, rfl⟩) (hb hby d_jdk_52_method_21_46) (by decide) (by decide) ⟨rfl, N272, K275, V272⟩
theorem ef_cmp3_4 (mt : MethodId) (a : Addr) : entryFrame mt #[(.ref a), (.int (0 : Int32)), (.int (4 : Int32))] 6 = mkF mt 0 #[.val (.ref a), .val (.int (0 : Int32)), .val (.int (4 : Int32)), .unset, .unset, .unset] [] := by first | (simp [entryFrame, mkF, argsToLocals, Value.category]; done) | rfl
def Q_cmp3_4 (Z : State) (a : Addr) (ka : ClassId) (x0 : Int32) (x1 : Int32) (x2 : Int32) (x3 : Int32) (h0 : Heap) (n0 : Nat) (v : Option Value) (h : Heap) (L : List Loc) : Prop := ∃ r : Addr, v = some (.ref r) ∧ Fr n0 L ∧ Keep h0 h [] ∧ n0 ≤ r ∧ h0.size ≤ r ∧ ∃ k : ClassId, Arv Z h r k .byte (4 : Int32) [(.int (x0.toInt8.toInt32)), (.int (x1.toInt8.toInt32)), (.int (x2.toInt8.toInt32)), (.int (x3.toInt8.toInt32))] (.int (0 : Int32))
set_option maxRecDepth 65536 in
set_option maxHeartbeats 40000000 in
theorem rm_cmp3_4 (l : Launch) (Z : State) (a0 : Array Value) (hw : ∀ d ∈ tables_1, d.before a0 Z = true) (ws : List Jvm.Cond) (a : Addr) (ka : ClassId) (x0 : Int32) (x1 : Int32) (x2 : Int32) (x3 : Int32) (h0 : Heap) (n0 : Nat) (Z0 : n0 ≤ h0.size) (VA : Arv Z h0 a ka .char (4 : Int32) [(.int x0), (.int x1), (.int x2), (.int x3)] (.int (0 : Int32))) (hp0 : own_B x0) (hp1 : own_B x1) (hp2 : own_B x2) (hp3 : own_B x3) :
    MetFree l (⟨"java/lang/StringUTF16", "compress", "([CII)[B"⟩ : MethodName) (head1 (Jvm.Cond.code (⟨"java/lang/StringUTF16", "compress", "([CII)[B"⟩ : MethodName) jdk_52_method_16_code 6 (some (.array .byte)) :: ws) ({ frames := 1, cells := 1, slots := 4, locals := 18 } : Room)) (fun aa UU => aa = #[(.ref a), (.int (0 : Int32)), (.int (4 : Int32))] ∧ Z.Warmed39 UU.vm ∧ UU.heap = h0) (fun _ _ _ _ _ => True) (fun _ UU oo UU' => ∃ vv LL, oo = .returned vv ∧ Q_cmp3_4 Z a ka x0 x1 x2 x3 h0 n0 vv UU'.heap LL ∧ FrameEnd UU oo UU' LL ({ frames := 1, cells := 1, slots := 4, locals := 18 } : Room).cells ({ frames := 1, cells := 1, slots := 4, locals := 18 } : Room).slots) := by
  refine MetFree.of_bodySF (plainFor_of_name pn_4) hisR ?_
  intro p e s mt args below meth cd s₁ Bd hml0 hP hK
  obtain ⟨hA, hZ, hh⟩ := hP
  have hx := Bd.exec
  have hby := Bd.bytes
  have hml : cd.maxLocals = 6 := hml0
  have hown : s.vm.findClass "java/lang/StringUTF16" = some mt.cls := findClass_of_methodNamed Bd.named
  have hnm := (name_of_methodNamed Bd.named Bd.method).1
  have hlk : meth.locks = false := BodyLoose.notSynchronized Bd
  have hrt := Bd.returns
  have X0 : Stand p l e ({ frames := 1, cells := 1, slots := 4, locals := 18 } : Room) s mt args below meth cd s₁ [] 0 0 := Stand.of_body Bd
  have e0 : s₁.heap = h0 := by rw [← hh, Bd.state]; rfl
  have N0 := Fr.nil n0
  show Win p e below (Ends s (Q_cmp3_4 Z a ka x0 x1 x2 x3 h0 n0) ({ frames := 1, cells := 1, slots := 4, locals := 18 } : Room).cells ({ frames := 1, cells := 1, slots := 4, locals := 18 } : Room).slots) s₁ (entryFrame mt args 6)
  rw [hA, ef_cmp3_4]
  refine Win.st ?_ (fun tq kq => XS.iloadN X0.here hx rfl (hb hby d_jdk_52_method_16_0) rfl kq)
  show Win p e below _ s₁ (mkF mt 1 #[.val (.ref a), .val (.int (0 : Int32)), .val (.int (4 : Int32)), .unset, .unset, .unset] [(.int (4 : Int32))])
  obtain ⟨T276, h276, k276, X276, e276, E276, A276, st276⟩ := newP X0 hx hZ (hw _ (List.mem_of_getElem? (i := 23) rfl)) e0 (g := (mkF mt 1 #[.val (.ref a), .val (.int (0 : Int32)), .val (.int (4 : Int32)), .unset, .unset, .unset] [(.int (4 : Int32))])) rfl (hb hby d_jdk_52_method_16_1) rfl (by decide) (cap := 4) (by decide) (by decide) (by decide) (by decide)
  obtain ⟨b276, gq276⟩ : ∃ z, z = h0.size := ⟨_, rfl⟩
  rw [← gq276] at A276 st276
  have ne277 : a ≠ b276 := own_new gq276 VA.lt
  have g278 : n0 ≤ b276 := own_newle Z0 gq276
  have z279 : h0.size ≤ b276 := own_newle (Keep.refl h0 []).1 gq276
  have ke276 := own_kext E276
  replace X276 : Stand p l e _ s mt args below meth cd T276 _ 1 4 := X276
  have f280_10 := VA.keep ke276 nin0
  have Z281 : n0 ≤ h276.size := Nat.le_trans Z0 ke276.1
  have K282 : Keep h0 h276 [] := Keep.trans (Keep.refl h0 []) ke276 all0
  have V276 : Arv Z h276 b276 k276 .byte (4 : Int32) [(.int (0 : Int32)), (.int (0 : Int32)), (.int (0 : Int32)), (.int (0 : Int32))] (.int (0 : Int32)) := (Arv.new A276 (by decide)).pad (pad_rep [] (.int (0 : Int32)) 4)
  refine Win.st ?_ st276
  show Win p e below _ T276 (mkF mt 3 #[.val (.ref a), .val (.int (0 : Int32)), .val (.int (4 : Int32)), .unset, .unset, .unset] [(.ref b276)])
  refine Win.st ?_ (fun tq kq => XS.astoreN X276.here hx rfl (hb hby d_jdk_52_method_16_3) rfl rfl (l' := #[.val (.ref a), .val (.int (0 : Int32)), .val (.int (4 : Int32)), .val (.ref b276), .unset, .unset]) rfl kq)
  show Win p e below _ T276 (mkF mt 4 #[.val (.ref a), .val (.int (0 : Int32)), .val (.int (4 : Int32)), .val (.ref b276), .unset, .unset] [])
  refine Win.st ?_ (fun tq kq => XS.aloadN X276.here hx rfl (hb hby d_jdk_52_method_16_4) rfl rfl kq)
  show Win p e below _ T276 (mkF mt 5 #[.val (.ref a), .val (.int (0 : Int32)), .val (.int (4 : Int32)), .val (.ref b276), .unset, .unset] [(.ref a)])
  refine Win.st ?_ (fun tq kq => XS.iloadN X276.here hx rfl (hb hby d_jdk_52_method_16_5) rfl kq)
  show Win p e below _ T276 (mkF mt 6 #[.val (.ref a), .val (.int (0 : Int32)), .val (.int (4 : Int32)), .val (.ref b276), .unset, .unset] [(.int (0 : Int32)), (.ref a)])
  refine Win.st ?_ (fun tq kq => XS.aloadN X276.here hx rfl (hb hby d_jdk_52_method_16_6) rfl rfl kq)
  show Win p e below _ T276 (mkF mt 7 #[.val (.ref a), .val (.int (0 : Int32)), .val (.int (4 : Int32)), .val (.ref b276), .unset, .unset] [(.ref b276), (.int (0 : Int32)), (.ref a)])
  refine Win.st ?_ (fun tq kq => XS.iconst X276.here hx rfl (hb hby d_jdk_52_method_16_7) kq)
  show Win p e below _ T276 (mkF mt 8 #[.val (.ref a), .val (.int (0 : Int32)), .val (.int (4 : Int32)), .val (.ref b276), .unset, .unset] [(.int (0 : Int32)), (.ref b276), (.int (0 : Int32)), (.ref a)])
  refine Win.st ?_ (fun tq kq => XS.iloadN X276.here hx rfl (hb hby d_jdk_52_method_16_8) rfl kq)
  show Win p e below _ T276 (mkF mt 9 #[.val (.ref a), .val (.int (0 : Int32)), .val (.int (4 : Int32)), .val (.ref b276), .unset, .unset] [(.int (4 : Int32)), (.int (0 : Int32)), (.ref b276), (.int (0 : Int32)), (.ref a)])
  obtain ⟨v283, _, ⟨T283, L283, k283, n283⟩, -, X283, ⟨Lc283, hQ283, l283, y283, z283⟩, st283⟩ := Jvm.LawKit.callS X276 hx (y := (⟨"java/lang/StringUTF16", "compress", "([CI[BII)I"⟩ : MethodName)) hown (mvT hZ (hw _ (List.mem_of_getElem? (i := 78) rfl))) (mvT hZ (hw _ (List.mem_of_getElem? (i := 79) rfl))) (mvT hZ (hw _ (List.mem_of_getElem? (i := 76) rfl))) (mvT hZ (hw _ (List.mem_of_getElem? (i := 80) rfl))) (by decide) (backOf (W := 0) (rm_cmp5_4 l Z a0 hw [] a b276 ka k276 x0 x1 x2 x3 h276 n0 Z281 f280_10 V276 g278 ne277 hp0 hp1 hp2 hp3) hZ (hw _ (List.mem_of_getElem? (i := 80) rfl)) (hw _ (List.mem_of_getElem? (i := 76) rfl)) (by decide) (by decide)) (g := (mkF mt 9 #[.val (.ref a), .val (.int (0 : Int32)), .val (.int (4 : Int32)), .val (.ref b276), .unset, .unset] [(.int (4 : Int32)), (.int (0 : Int32)), (.ref b276), (.int (0 : Int32)), (.ref a)])) rfl (by rw [hml]; rfl) (argsL := [(.ref a), (.int (0 : Int32)), (.ref b276), (.int (0 : Int32)), (.int (4 : Int32))]) (rest := []) (lenOf pd_9 rfl) rfl (by show 2 * 0 + _ ≤ _; exact Nat.le_of_eq rfl) (hb hby d_jdk_52_method_16_9) (fun _ _ => ⟨rfl, e276, (by decide : 1 + 0 ≤ _), (by decide : 4 + 0 ≤ _)⟩)
  dsimp only [Pt.U, Pt.locs, Pt.cells, Pt.slots] at X283 l283 y283 z283 st283 hQ283
  subst y283 z283
  replace X283 : Stand p l e _ s mt args below meth cd T283 L283 1 4 := X283
  obtain ⟨h283, e283⟩ : ∃ z, T283.heap = z := ⟨_, rfl⟩
  rw [e283] at hQ283
  obtain ⟨rfl, Nq283, K283, V283⟩ := hQ283
  have N283 : Fr n0 L283 := by rw [l283]; exact Fr.app N0 Nq283
  have f284_36 := f280_10.keep K283 (ninS ne277 nin0)
  have Z285 : n0 ≤ h283.size := Nat.le_trans Z281 K283.1
  have K286 : Keep h0 h283 [] := Keep.trans K282 K283 (allS (Or.inr z279) all0)
  refine Win.st ?_ st283
  show Win p e below _ T283 (mkF mt 12 #[.val (.ref a), .val (.int (0 : Int32)), .val (.int (4 : Int32)), .val (.ref b276), .unset, .unset] [(.int (4 : Int32))])
  refine Win.st ?_ (fun tq kq => XS.istore X283.here hx rfl (hb hby d_jdk_52_method_16_12) rfl (l' := #[.val (.ref a), .val (.int (0 : Int32)), .val (.int (4 : Int32)), .val (.ref b276), .val (.int (4 : Int32)), .unset]) rfl kq)
  show Win p e below _ T283 (mkF mt 14 #[.val (.ref a), .val (.int (0 : Int32)), .val (.int (4 : Int32)), .val (.ref b276), .val (.int (4 : Int32)), .unset] [])
  refine Win.st ?_ (fun tq kq => XS.iload X283.here hx rfl (hb hby d_jdk_52_method_16_14) rfl kq)
  show Win p e below _ T283 (mkF mt 16 #[.val (.ref a), .val (.int (0 : Int32)), .val (.int (4 : Int32)), .val (.ref b276), .val (.int (4 : Int32)), .unset] [(.int (4 : Int32))])
  refine Win.st ?_ (fun tq kq => XS.iloadN X283.here hx rfl (hb hby d_jdk_52_method_16_16) rfl kq)
  show Win p e below _ T283 (mkF mt 17 #[.val (.ref a), .val (.int (0 : Int32)), .val (.int (4 : Int32)), .val (.ref b276), .val (.int (4 : Int32)), .unset] [(.int (4 : Int32)), (.int (4 : Int32))])
  refine Win.st ?_ (fun tq kq => XS.icmpYes X283.here hx rfl (pc0 := 17) (pc' := 57) rfl (hb hby d_jdk_52_method_16_17) rfl (teq (rfl : (4 : Int32) = (4 : Int32))).1 (by decide) (by decide) kq)
  show Win p e below _ T283 (mkF mt 57 #[.val (.ref a), .val (.int (0 : Int32)), .val (.int (4 : Int32)), .val (.ref b276), .val (.int (4 : Int32)), .unset] [])
  refine Win.st ?_ (fun tq kq => XS.aloadN X283.here hx rfl (hb hby d_jdk_52_method_16_57) rfl rfl kq)
  show Win p e below _ T283 (mkF mt 58 #[.val (.ref a), .val (.int (0 : Int32)), .val (.int (4 : Int32)), .val (.ref b276), .val (.int (4 : Int32)), .unset] [(.ref b276)])
  exact Win.ret X283 hx hlk e283 hrt rfl (Or.inr (Or.inr (Or.inr (Or.inr ⟨rfl, rfl, rfl⟩)))) (hb hby d_jdk_52_method_16_58) (by decide) (by decide) ⟨_, rfl, N283, K286, g278, z279, _, V283⟩
theorem ef_cfa_4 (mt : MethodId) (b : Addr) : entryFrame mt #[(.ref b), (.int (4 : Int32))] 2 = mkF mt 0 #[.val (.ref b), .val (.int (4 : Int32))] [] := by first | (simp [entryFrame, mkF, argsToLocals, Value.category]; done) | rfl
def Q_cfa_4 (Z : State) (b : Addr) (kb : ClassId) (vs : List Value) (h0 : Heap) (n0 : Nat) (v : Option Value) (h : Heap) (L : List Loc) : Prop := v = some (.int (0 : Int32)) ∧ Fr n0 L ∧ h = h0
set_option maxRecDepth 65536 in
set_option maxHeartbeats 40000000 in
theorem rm_cfa_4 (l : Launch) (Z : State) (a0 : Array Value) (hw : ∀ d ∈ tables_1, d.before a0 Z = true) (ws : List Jvm.Cond) (b : Addr) (kb : ClassId) (vs : List Value) (h0 : Heap) (n0 : Nat) (Z0 : n0 ≤ h0.size) (VB : Arv Z h0 b kb .byte (4 : Int32) vs (.int (0 : Int32))) :
    MetFree l (⟨"java/lang/StringUTF16", "coderFromArrayLen", "([BI)B"⟩ : MethodName) (head1 (Jvm.Cond.code (⟨"java/lang/StringUTF16", "coderFromArrayLen", "([BI)B"⟩ : MethodName) jdk_52_method_15_code 2 (some .byte) :: ws) ({ frames := 0, cells := 0, slots := 0, locals := 0 } : Room)) (fun aa UU => aa = #[(.ref b), (.int (4 : Int32))] ∧ Z.Warmed39 UU.vm ∧ UU.heap = h0) (fun _ _ _ _ _ => True) (fun _ UU oo UU' => ∃ vv LL, oo = .returned vv ∧ Q_cfa_4 Z b kb vs h0 n0 vv UU'.heap LL ∧ FrameEnd UU oo UU' LL ({ frames := 0, cells := 0, slots := 0, locals := 0 } : Room).cells ({ frames := 0, cells := 0, slots := 0, locals := 0 } : Room).slots) := by
  refine MetFree.of_bodySF (plainFor_of_name pn_4) hisR ?_
  intro p e s mt args below meth cd s₁ Bd hml0 hP hK
  obtain ⟨hA, hZ, hh⟩ := hP
  have hx := Bd.exec
  have hby := Bd.bytes
  have hml : cd.maxLocals = 2 := hml0
  have hown : s.vm.findClass "java/lang/StringUTF16" = some mt.cls := findClass_of_methodNamed Bd.named
  have hnm := (name_of_methodNamed Bd.named Bd.method).1
  have hlk : meth.locks = false := BodyLoose.notSynchronized Bd
  have hrt := Bd.returns
  have X0 : Stand p l e ({ frames := 0, cells := 0, slots := 0, locals := 0 } : Room) s mt args below meth cd s₁ [] 0 0 := Stand.of_body Bd
  have e0 : s₁.heap = h0 := by rw [← hh, Bd.state]; rfl
  have N0 := Fr.nil n0
  show Win p e below (Ends s (Q_cfa_4 Z b kb vs h0 n0) ({ frames := 0, cells := 0, slots := 0, locals := 0 } : Room).cells ({ frames := 0, cells := 0, slots := 0, locals := 0 } : Room).slots) s₁ (entryFrame mt args 2)
  rw [hA, ef_cfa_4]
  refine Win.st ?_ (fun tq kq => XS.iloadN X0.here hx rfl (hb hby d_jdk_52_method_15_0) rfl kq)
  show Win p e below _ s₁ (mkF mt 1 #[.val (.ref b), .val (.int (4 : Int32))] [(.int (4 : Int32))])
  refine Win.st ?_ (fun tq kq => XS.aloadN X0.here hx rfl (hb hby d_jdk_52_method_15_1) rfl rfl kq)
  show Win p e below _ s₁ (mkF mt 2 #[.val (.ref b), .val (.int (4 : Int32))] [(.ref b), (.int (4 : Int32))])
  refine Win.st ?_ (own_alen (g := (mkF mt 2 #[.val (.ref b), .val (.int (4 : Int32))] [(.ref b), (.int (4 : Int32))])) X0 hx hZ e0 VB rfl rfl (hb hby d_jdk_52_method_15_2))
  show Win p e below _ s₁ (mkF mt 3 #[.val (.ref b), .val (.int (4 : Int32))] [(.int (4 : Int32)), (.int (4 : Int32))])
  refine Win.st ?_ (fun tq kq => XS.isub X0.here hx rfl (hb hby d_jdk_52_method_15_3) rfl kq)
  show Win p e below _ s₁ (mkF mt 4 #[.val (.ref b), .val (.int (4 : Int32))] [(.int ((4 : Int32) - (4 : Int32)))])
  refine Win.st ?_ (fun tq kq => XS.bipush X0.here hx rfl (hb hby d_jdk_52_method_15_4) kq)
  show Win p e below _ s₁ (mkF mt 6 #[.val (.ref b), .val (.int (4 : Int32))] [(.int (31 : Int32)), (.int ((4 : Int32) - (4 : Int32)))])
  refine Win.st ?_ (fun tq kq => XS.iushr X0.here hx rfl (hb hby d_jdk_52_method_15_6) rfl kq)
  show Win p e below _ s₁ (mkF mt 7 #[.val (.ref b), .val (.int (4 : Int32))] [(.int ((((4 : Int32) - (4 : Int32)).toUInt32 >>> ((31 : Int32) &&& 31).toUInt32).toInt32))])
  refine Win.st ?_ (fun tq kq => XS.i2b X0.here hx rfl (hb hby d_jdk_52_method_15_7) rfl kq)
  show Win p e below _ s₁ (mkF mt 8 #[.val (.ref b), .val (.int (4 : Int32))] [(.int (((((4 : Int32) - (4 : Int32)).toUInt32 >>> ((31 : Int32) &&& 31).toUInt32).toInt32).toInt8.toInt32))])
  exact Win.retN X0 hx hlk e0 (t := .byte) (z' := (0 : Int32)) hrt (by simp) (hb hby d_jdk_52_method_15_8) (by decide) (by decide) (by decide) ⟨rfl, N0, rfl⟩
theorem ef_si6_4 (mt : MethodId) (a : Addr) (c : Addr) : entryFrame mt #[(.ref a), (.ref c), (.int (0 : Int32)), (.int (4 : Int32)), .null] 6 = mkF mt 0 #[.val (.ref a), .val (.ref c), .val (.int (0 : Int32)), .val (.int (4 : Int32)), .val .null, .unset] [] := by first | (simp [entryFrame, mkF, argsToLocals, Value.category]; done) | rfl
def Q_si6_4 (Z : State) (a : Addr) (c : Addr) (cs : Int32) (kc : ClassId) (x0 : Int32) (x1 : Int32) (x2 : Int32) (x3 : Int32) (h0 : Heap) (n0 : Nat) (v : Option Value) (h : Heap) (L : List Loc) : Prop := v = none ∧ Fr n0 L ∧ Keep h0 h [a] ∧ Fld Z h a "java/lang/String" "coder" "B" (.int (0 : Int32)) ∧ ∃ (t : Addr) (k : ClassId), n0 ≤ t ∧ h0.size ≤ t ∧ Fld Z h a "java/lang/String" "value" "[B" (.ref t) ∧ Arv Z h t k .byte (4 : Int32) [(.int (x0.toInt8.toInt32)), (.int (x1.toInt8.toInt32)), (.int (x2.toInt8.toInt32)), (.int (x3.toInt8.toInt32))] (.int (0 : Int32))
set_option maxRecDepth 65536 in
set_option maxHeartbeats 40000000 in
theorem rm_si6_4 (l : Launch) (Z : State) (a0 : Array Value) (hw : ∀ d ∈ tables_1, d.before a0 Z = true) (ws : List Jvm.Cond) (a : Addr) (c : Addr) (cs : Int32) (kc : ClassId) (x0 : Int32) (x1 : Int32) (x2 : Int32) (x3 : Int32) (h0 : Heap) (n0 : Nat) (Z0 : n0 ≤ h0.size) (E : Exa Z h0 a "java/lang/String") (Fv : Fld Z h0 a "java/lang/String" "value" "[B" .null) (Fc : Fld Z h0 a "java/lang/String" "coder" "B" (.int (0 : Int32))) (ga : n0 ≤ a) (S0 : Sta Z Z.heap "java/lang/String" "COMPACT_STRINGS" "Z" (.int cs)) (hcs : ¬ cs = (0 : Int32)) (O : Old Z n0 h0) (VA : Arv Z h0 c kc .char (4 : Int32) [(.int x0), (.int x1), (.int x2), (.int x3)] (.int (0 : Int32))) (nca : c ≠ a) (hp0 : own_B x0) (hp1 : own_B x1) (hp2 : own_B x2) (hp3 : own_B x3) :
    MetFree l (⟨"java/lang/String", "<init>", "([CIILjava/lang/Void;)V"⟩ : MethodName) (head1 (Jvm.Cond.code (⟨"java/lang/String", "<init>", "([CIILjava/lang/Void;)V"⟩ : MethodName) jdk_42_method_149_code 6 none :: ws) ({ frames := 2, cells := 1, slots := 4, locals := 35 } : Room)) (fun aa UU => aa = #[(.ref a), (.ref c), (.int (0 : Int32)), (.int (4 : Int32)), .null] ∧ Z.Warmed39 UU.vm ∧ UU.heap = h0) (fun _ _ _ _ _ => True) (fun _ UU oo UU' => ∃ vv LL, oo = .returned vv ∧ Q_si6_4 Z a c cs kc x0 x1 x2 x3 h0 n0 vv UU'.heap LL ∧ FrameEnd UU oo UU' LL ({ frames := 2, cells := 1, slots := 4, locals := 35 } : Room).cells ({ frames := 2, cells := 1, slots := 4, locals := 35 } : Room).slots) := by
  refine MetFree.of_bodySF (plainFor_of_name pn_1) hisR ?_
  intro p e s mt args below meth cd s₁ Bd hml0 hP hK
  obtain ⟨hA, hZ, hh⟩ := hP
  have hx := Bd.exec
  have hby := Bd.bytes
  have hml : cd.maxLocals = 6 := hml0
  have hown : s.vm.findClass "java/lang/String" = some mt.cls := findClass_of_methodNamed Bd.named
  have hnm := (name_of_methodNamed Bd.named Bd.method).1
  have hlk : meth.locks = false := BodyLoose.notSynchronized Bd
  have hrt := Bd.returns
  have X0 : Stand p l e ({ frames := 2, cells := 1, slots := 4, locals := 35 } : Room) s mt args below meth cd s₁ [] 0 0 := Stand.of_body Bd
  have e0 : s₁.heap = h0 := by rw [← hh, Bd.state]; rfl
  have N0 := Fr.nil n0
  show Win p e below (Ends s (Q_si6_4 Z a c cs kc x0 x1 x2 x3 h0 n0) ({ frames := 2, cells := 1, slots := 4, locals := 35 } : Room).cells ({ frames := 2, cells := 1, slots := 4, locals := 35 } : Room).slots) s₁ (entryFrame mt args 6)
  rw [hA, ef_si6_4]
  refine Win.st ?_ (fun tq kq => XS.aloadN X0.here hx rfl (hb hby d_jdk_42_method_149_0) rfl rfl kq)
  show Win p e below _ s₁ (mkF mt 1 #[.val (.ref a), .val (.ref c), .val (.int (0 : Int32)), .val (.int (4 : Int32)), .val .null, .unset] [(.ref a)])
  obtain ⟨T287, X287, e287, st287⟩ := initO X0 hx hZ hown (hw _ (List.mem_of_getElem? (i := 19) rfl)) (hw _ (List.mem_of_getElem? (i := 20) rfl)) (hw _ (List.mem_of_getElem? (i := 21) rfl)) e0 (g := (mkF mt 1 #[.val (.ref a), .val (.ref c), .val (.int (0 : Int32)), .val (.int (4 : Int32)), .val .null, .unset] [(.ref a)])) rfl (by rw [hml]; rfl) rfl (hb hby d_jdk_42_method_149_1) (by decide) (W := 0) (by show 2 * 0 + _ ≤ _; exact Nat.le_of_eq rfl) (by decide)
  refine Win.st ?_ st287
  show Win p e below _ T287 (mkF mt 4 #[.val (.ref a), .val (.ref c), .val (.int (0 : Int32)), .val (.int (4 : Int32)), .val .null, .unset] [])
  refine Win.st ?_ (fun tq kq => XS.iloadN X287.here hx rfl (hb hby d_jdk_42_method_149_4) rfl kq)
  show Win p e below _ T287 (mkF mt 5 #[.val (.ref a), .val (.ref c), .val (.int (0 : Int32)), .val (.int (4 : Int32)), .val .null, .unset] [(.int (4 : Int32))])
  refine Win.st ?_ (fun tq kq => XS.ifYes X287.here hx rfl (pc0 := 5) (pc' := 27) rfl (hb hby d_jdk_42_method_149_5) rfl ((if0 _ _).trans (feq (by decide : ¬ ((4 : Int32) = (0 : Int32)))).2) (by decide) (by decide) kq)
  show Win p e below _ T287 (mkF mt 27 #[.val (.ref a), .val (.ref c), .val (.int (0 : Int32)), .val (.int (4 : Int32)), .val .null, .unset] [])
  obtain ⟨T288, X288, e288, st288⟩ := getS2 X287 hx hZ hown (host := "") (Or.inl (hw _ (List.mem_of_getElem? (i := 49) rfl))) Via.refl e287 (S0.ext O.2) (g := (mkF mt 27 #[.val (.ref a), .val (.ref c), .val (.int (0 : Int32)), .val (.int (4 : Int32)), .val .null, .unset] [])) rfl (hb hby d_jdk_42_method_149_27)
  refine Win.st ?_ st288
  show Win p e below _ T288 (mkF mt 30 #[.val (.ref a), .val (.ref c), .val (.int (0 : Int32)), .val (.int (4 : Int32)), .val .null, .unset] [(.int cs)])
  refine Win.st ?_ (fun tq kq => XS.ifNo X288.here hx rfl (hb hby d_jdk_42_method_149_30) rfl ((if0 _ _).trans (feq hcs).1) kq)
  show Win p e below _ T288 (mkF mt 33 #[.val (.ref a), .val (.ref c), .val (.int (0 : Int32)), .val (.int (4 : Int32)), .val .null, .unset] [])
  refine Win.st ?_ (fun tq kq => XS.aloadN X288.here hx rfl (hb hby d_jdk_42_method_149_33) rfl rfl kq)
  show Win p e below _ T288 (mkF mt 34 #[.val (.ref a), .val (.ref c), .val (.int (0 : Int32)), .val (.int (4 : Int32)), .val .null, .unset] [(.ref c)])
  refine Win.st ?_ (fun tq kq => XS.iloadN X288.here hx rfl (hb hby d_jdk_42_method_149_34) rfl kq)
  show Win p e below _ T288 (mkF mt 35 #[.val (.ref a), .val (.ref c), .val (.int (0 : Int32)), .val (.int (4 : Int32)), .val .null, .unset] [(.int (0 : Int32)), (.ref c)])
  refine Win.st ?_ (fun tq kq => XS.iloadN X288.here hx rfl (hb hby d_jdk_42_method_149_35) rfl kq)
  show Win p e below _ T288 (mkF mt 36 #[.val (.ref a), .val (.ref c), .val (.int (0 : Int32)), .val (.int (4 : Int32)), .val .null, .unset] [(.int (4 : Int32)), (.int (0 : Int32)), (.ref c)])
  obtain ⟨v289, _, ⟨T289, L289, k289, n289⟩, -, X289, ⟨Lc289, hQ289, l289, y289, z289⟩, st289⟩ := Jvm.LawKit.callS X288 hx (y := (⟨"java/lang/StringUTF16", "compress", "([CII)[B"⟩ : MethodName)) hown (mvT hZ (hw _ (List.mem_of_getElem? (i := 74) rfl))) (mvT hZ (hw _ (List.mem_of_getElem? (i := 75) rfl))) (mvT hZ (hw _ (List.mem_of_getElem? (i := 76) rfl))) (mvT hZ (hw _ (List.mem_of_getElem? (i := 77) rfl))) (by decide) (backOf (W := 0) (rm_cmp3_4 l Z a0 hw [] c kc x0 x1 x2 x3 h0 n0 Z0 VA hp0 hp1 hp2 hp3) hZ (hw _ (List.mem_of_getElem? (i := 77) rfl)) (hw _ (List.mem_of_getElem? (i := 76) rfl)) (by decide) (by decide)) (g := (mkF mt 36 #[.val (.ref a), .val (.ref c), .val (.int (0 : Int32)), .val (.int (4 : Int32)), .val .null, .unset] [(.int (4 : Int32)), (.int (0 : Int32)), (.ref c)])) rfl (by rw [hml]; rfl) (argsL := [(.ref c), (.int (0 : Int32)), (.int (4 : Int32))]) (rest := []) (lenOf pd_10 rfl) rfl (by show 2 * 0 + _ ≤ _; exact Nat.le_of_eq rfl) (hb hby d_jdk_42_method_149_36) (fun _ _ => ⟨rfl, e288, (by decide : 0 + 1 ≤ _), (by decide : 0 + 4 ≤ _)⟩)
  dsimp only [Pt.U, Pt.locs, Pt.cells, Pt.slots] at X289 l289 y289 z289 st289 hQ289
  subst y289 z289
  replace X289 : Stand p l e _ s mt args below meth cd T289 L289 1 4 := X289
  obtain ⟨h289, e289⟩ : ∃ z, T289.heap = z := ⟨_, rfl⟩
  rw [e289] at hQ289
  obtain ⟨tt, rfl, Nq289, K289, gt289, zt289, kt, V289⟩ := hQ289
  have N289 : Fr n0 L289 := by rw [l289]; exact Fr.app N0 Nq289
  have f290_28 := O.keep K289 all0
  have f290_29 := E.keep K289
  have f290_30 := Fv.keep K289 nin0
  have f290_31 := Fc.keep K289 nin0
  have f290_32 := VA.keep K289 nin0
  have Z291 : n0 ≤ h289.size := Nat.le_trans Z0 K289.1
  have K292 : Keep h0 h289 [a] := Keep.trans (Keep.refl h0 [a]) K289 all0
  have nat : a ≠ tt := Nat.ne_of_lt (Nat.lt_of_lt_of_le E.lt zt289)
  have szt : h0.size ≤ tt := Nat.le_trans (Keep.refl h0 [a]).1 zt289
  refine Win.st ?_ st289
  show Win p e below _ T289 (mkF mt 39 #[.val (.ref a), .val (.ref c), .val (.int (0 : Int32)), .val (.int (4 : Int32)), .val .null, .unset] [(.ref tt)])
  refine Win.st ?_ (fun tq kq => XS.astore X289.here hx rfl (hb hby d_jdk_42_method_149_39) rfl rfl (l' := #[.val (.ref a), .val (.ref c), .val (.int (0 : Int32)), .val (.int (4 : Int32)), .val .null, .val (.ref tt)]) rfl kq)
  show Win p e below _ T289 (mkF mt 41 #[.val (.ref a), .val (.ref c), .val (.int (0 : Int32)), .val (.int (4 : Int32)), .val .null, .val (.ref tt)] [])
  refine Win.st ?_ (fun tq kq => XS.aloadN X289.here hx rfl (hb hby d_jdk_42_method_149_41) rfl rfl kq)
  show Win p e below _ T289 (mkF mt 42 #[.val (.ref a), .val (.ref c), .val (.int (0 : Int32)), .val (.int (4 : Int32)), .val .null, .val (.ref tt)] [(.ref a)])
  refine Win.st ?_ (fun tq kq => XS.aload X289.here hx rfl (hb hby d_jdk_42_method_149_42) rfl rfl kq)
  show Win p e below _ T289 (mkF mt 44 #[.val (.ref a), .val (.ref c), .val (.int (0 : Int32)), .val (.int (4 : Int32)), .val .null, .val (.ref tt)] [(.ref tt), (.ref a)])
  refine Win.st ?_ (fun tq kq => XS.iloadN X289.here hx rfl (hb hby d_jdk_42_method_149_44) rfl kq)
  show Win p e below _ T289 (mkF mt 45 #[.val (.ref a), .val (.ref c), .val (.int (0 : Int32)), .val (.int (4 : Int32)), .val .null, .val (.ref tt)] [(.int (4 : Int32)), (.ref tt), (.ref a)])
  obtain ⟨v293, _, ⟨T293, L293, k293, n293⟩, -, X293, ⟨Lc293, hQ293, l293, y293, z293⟩, st293⟩ := Jvm.LawKit.callS X289 hx (y := (⟨"java/lang/StringUTF16", "coderFromArrayLen", "([BI)B"⟩ : MethodName)) hown (mvT hZ (hw _ (List.mem_of_getElem? (i := 81) rfl))) (mvT hZ (hw _ (List.mem_of_getElem? (i := 82) rfl))) (mvT hZ (hw _ (List.mem_of_getElem? (i := 76) rfl))) (mvT hZ (hw _ (List.mem_of_getElem? (i := 83) rfl))) (by decide) (backOf (W := 1) (rm_cfa_4 l Z a0 hw [] tt kt [(.int (x0.toInt8.toInt32)), (.int (x1.toInt8.toInt32)), (.int (x2.toInt8.toInt32)), (.int (x3.toInt8.toInt32))] h289 n0 Z291 V289) hZ (hw _ (List.mem_of_getElem? (i := 83) rfl)) (hw _ (List.mem_of_getElem? (i := 76) rfl)) (by decide) (by decide)) (g := (mkF mt 45 #[.val (.ref a), .val (.ref c), .val (.int (0 : Int32)), .val (.int (4 : Int32)), .val .null, .val (.ref tt)] [(.int (4 : Int32)), (.ref tt), (.ref a)])) rfl (by rw [hml]; rfl) (argsL := [(.ref tt), (.int (4 : Int32))]) (rest := [(.ref a)]) (lenOf pd_11 rfl) rfl (by show 2 * 0 + _ ≤ _; exact Nat.le_of_eq rfl) (hb hby d_jdk_42_method_149_45) (fun _ _ => ⟨rfl, e289, (by decide : 1 + 0 ≤ _), (by decide : 4 + 0 ≤ _)⟩)
  dsimp only [Pt.U, Pt.locs, Pt.cells, Pt.slots] at X293 l293 y293 z293 st293 hQ293
  subst y293 z293
  replace X293 : Stand p l e _ s mt args below meth cd T293 L293 1 4 := X293
  obtain ⟨h293, e293⟩ : ∃ z, T293.heap = z := ⟨_, rfl⟩
  rw [e293] at hQ293
  obtain ⟨rfl, Nq293, eh293⟩ := hQ293
  have N293 : Fr n0 L293 := by rw [l293]; exact Fr.app N289 Nq293
  rw [eh293] at e293
  refine Win.st ?_ st293
  show Win p e below _ T293 (mkF mt 48 #[.val (.ref a), .val (.ref c), .val (.int (0 : Int32)), .val (.int (4 : Int32)), .val .null, .val (.ref tt)] [(.int (0 : Int32)), (.ref a)])
  obtain ⟨T294, h294, X294, e294, W294, st294⟩ := putFN X293 hx hZ hown (hw _ (List.mem_of_getElem? (i := 29) rfl)) Via.refl e293 f290_31 f290_29 (Or.inr ⟨(hw _ (List.mem_of_getElem? (i := 25) rfl)), rfl, hnm⟩) (hw _ (List.mem_of_getElem? (i := 9) rfl)) (ty := .byte) (v' := (.int (0 : Int32))) (by decide) rfl (by decide) (g := (mkF mt 48 #[.val (.ref a), .val (.ref c), .val (.int (0 : Int32)), .val (.int (4 : Int32)), .val .null, .val (.ref tt)] [(.int (0 : Int32)), (.ref a)])) rfl rfl (hb hby d_jdk_42_method_149_48)
  obtain ⟨L294, X294, N294⟩ := own_hide X294 N293 ga
  have kp294 := Keep.of_wr W294
  have f294_61 := f290_30.other W294 (Or.inr (slot_ne (Or.inr (hw _ (List.mem_of_getElem? (i := 24) rfl))) (Or.inr (hw _ (List.mem_of_getElem? (i := 25) rfl))) (by decide) (t := (.array .byte)) (t' := .byte) (by decide) (by decide)))
  have fw294 := f290_31.same W294
  have f295_63 := f290_28.keep kp294 (allS ga all0)
  have f295_64 := f290_29.keep kp294
  have f295_65 := f290_32.keep kp294 (ninS nca nin0)
  have f295_66 := V289.keep kp294 (ninS (Ne.symm nat) nin0)
  have Z296 : n0 ≤ h294.size := Nat.le_trans Z291 kp294.1
  have K297 : Keep h0 h294 [a] := Keep.trans K292 kp294 (allS (Or.inl (List.mem_of_getElem? (i := 0) rfl)) all0)
  refine Win.st ?_ st294
  show Win p e below _ T294 (mkF mt 51 #[.val (.ref a), .val (.ref c), .val (.int (0 : Int32)), .val (.int (4 : Int32)), .val .null, .val (.ref tt)] [])
  refine Win.st ?_ (fun tq kq => XS.aloadN X294.here hx rfl (hb hby d_jdk_42_method_149_51) rfl rfl kq)
  show Win p e below _ T294 (mkF mt 52 #[.val (.ref a), .val (.ref c), .val (.int (0 : Int32)), .val (.int (4 : Int32)), .val .null, .val (.ref tt)] [(.ref a)])
  refine Win.st ?_ (fun tq kq => XS.aload X294.here hx rfl (hb hby d_jdk_42_method_149_52) rfl rfl kq)
  show Win p e below _ T294 (mkF mt 54 #[.val (.ref a), .val (.ref c), .val (.int (0 : Int32)), .val (.int (4 : Int32)), .val .null, .val (.ref tt)] [(.ref tt), (.ref a)])
  obtain ⟨T298, h298, X298, e298, W298, st298⟩ := putF X294 hx hZ hown (host := "") (Or.inl (hw _ (List.mem_of_getElem? (i := 28) rfl))) Via.refl e294 f294_61 f295_64 (Or.inr ⟨(hw _ (List.mem_of_getElem? (i := 24) rfl)), rfl, hnm⟩) (hw _ (List.mem_of_getElem? (i := 9) rfl)) (ty := (.array .byte)) (by decide) rfl rfl (g := (mkF mt 54 #[.val (.ref a), .val (.ref c), .val (.int (0 : Int32)), .val (.int (4 : Int32)), .val .null, .val (.ref tt)] [(.ref tt), (.ref a)])) rfl rfl (hb hby d_jdk_42_method_149_54)
  obtain ⟨L298, X298, N298⟩ := own_hide X298 N294 ga
  have kp298 := Keep.of_wr W298
  have fw298 := f294_61.same W298
  have f298_79 := fw294.other W298 (Or.inr (slot_ne (Or.inr (hw _ (List.mem_of_getElem? (i := 25) rfl))) (Or.inr (hw _ (List.mem_of_getElem? (i := 24) rfl))) (by decide) (t := .byte) (t' := (.array .byte)) (by decide) (by decide)))
  have f299_80 := f295_63.keep kp298 (allS ga all0)
  have f299_81 := f295_64.keep kp298
  have f299_82 := f295_65.keep kp298 (ninS nca nin0)
  have f299_83 := f295_66.keep kp298 (ninS (Ne.symm nat) nin0)
  have Z300 : n0 ≤ h298.size := Nat.le_trans Z296 kp298.1
  have K301 : Keep h0 h298 [a] := Keep.trans K297 kp298 (allS (Or.inl (List.mem_of_getElem? (i := 0) rfl)) all0)
  refine Win.st ?_ st298
  show Win p e below _ T298 (mkF mt 57 #[.val (.ref a), .val (.ref c), .val (.int (0 : Int32)), .val (.int (4 : Int32)), .val .null, .val (.ref tt)] [])
  exact Win.retV X298 hx hlk e298 hrt (hb hby d_jdk_42_method_149_57) (by decide) (by decide) ⟨rfl, N298, K301, f298_79, tt, kt, gt289, szt, fw298, f299_83⟩
theorem ef_si3_4 (mt : MethodId) (a : Addr) (c : Addr) : entryFrame mt #[(.ref a), (.ref c)] 2 = mkF mt 0 #[.val (.ref a), .val (.ref c)] [] := by first | (simp [entryFrame, mkF, argsToLocals, Value.category]; done) | rfl
def Q_si3_4 (Z : State) (a : Addr) (c : Addr) (cs : Int32) (kc : ClassId) (x0 : Int32) (x1 : Int32) (x2 : Int32) (x3 : Int32) (h0 : Heap) (n0 : Nat) (v : Option Value) (h : Heap) (L : List Loc) : Prop := v = none ∧ Fr n0 L ∧ Keep h0 h [a] ∧ Fld Z h a "java/lang/String" "coder" "B" (.int (0 : Int32)) ∧ ∃ (t : Addr) (k : ClassId), n0 ≤ t ∧ h0.size ≤ t ∧ Fld Z h a "java/lang/String" "value" "[B" (.ref t) ∧ Arv Z h t k .byte (4 : Int32) [(.int (x0.toInt8.toInt32)), (.int (x1.toInt8.toInt32)), (.int (x2.toInt8.toInt32)), (.int (x3.toInt8.toInt32))] (.int (0 : Int32))
set_option maxRecDepth 65536 in
set_option maxHeartbeats 40000000 in
theorem rm_si3_4 (l : Launch) (Z : State) (a0 : Array Value) (hw : ∀ d ∈ tables_1, d.before a0 Z = true) (ws : List Jvm.Cond) (a : Addr) (c : Addr) (cs : Int32) (kc : ClassId) (x0 : Int32) (x1 : Int32) (x2 : Int32) (x3 : Int32) (h0 : Heap) (n0 : Nat) (Z0 : n0 ≤ h0.size) (E : Exa Z h0 a "java/lang/String") (Fv : Fld Z h0 a "java/lang/String" "value" "[B" .null) (Fc : Fld Z h0 a "java/lang/String" "coder" "B" (.int (0 : Int32))) (ga : n0 ≤ a) (S0 : Sta Z Z.heap "java/lang/String" "COMPACT_STRINGS" "Z" (.int cs)) (hcs : ¬ cs = (0 : Int32)) (O : Old Z n0 h0) (VA : Arv Z h0 c kc .char (4 : Int32) [(.int x0), (.int x1), (.int x2), (.int x3)] (.int (0 : Int32))) (nca : c ≠ a) (hp0 : own_B x0) (hp1 : own_B x1) (hp2 : own_B x2) (hp3 : own_B x3) :
    MetFree l (⟨"java/lang/String", "<init>", "([C)V"⟩ : MethodName) (head1 (Jvm.Cond.code (⟨"java/lang/String", "<init>", "([C)V"⟩ : MethodName) jdk_42_method_3_code 2 none :: ws) ({ frames := 3, cells := 1, slots := 4, locals := 52 } : Room)) (fun aa UU => aa = #[(.ref a), (.ref c)] ∧ Z.Warmed39 UU.vm ∧ UU.heap = h0) (fun _ _ _ _ _ => True) (fun _ UU oo UU' => ∃ vv LL, oo = .returned vv ∧ Q_si3_4 Z a c cs kc x0 x1 x2 x3 h0 n0 vv UU'.heap LL ∧ FrameEnd UU oo UU' LL ({ frames := 3, cells := 1, slots := 4, locals := 52 } : Room).cells ({ frames := 3, cells := 1, slots := 4, locals := 52 } : Room).slots) := by
  refine MetFree.of_bodySF (plainFor_of_name pn_1) hisR ?_
  intro p e s mt args below meth cd s₁ Bd hml0 hP hK
  obtain ⟨hA, hZ, hh⟩ := hP
  have hx := Bd.exec
  have hby := Bd.bytes
  have hml : cd.maxLocals = 2 := hml0
  have hown : s.vm.findClass "java/lang/String" = some mt.cls := findClass_of_methodNamed Bd.named
  have hnm := (name_of_methodNamed Bd.named Bd.method).1
  have hlk : meth.locks = false := BodyLoose.notSynchronized Bd
  have hrt := Bd.returns
  have X0 : Stand p l e ({ frames := 3, cells := 1, slots := 4, locals := 52 } : Room) s mt args below meth cd s₁ [] 0 0 := Stand.of_body Bd
  have e0 : s₁.heap = h0 := by rw [← hh, Bd.state]; rfl
  have N0 := Fr.nil n0
  show Win p e below (Ends s (Q_si3_4 Z a c cs kc x0 x1 x2 x3 h0 n0) ({ frames := 3, cells := 1, slots := 4, locals := 52 } : Room).cells ({ frames := 3, cells := 1, slots := 4, locals := 52 } : Room).slots) s₁ (entryFrame mt args 2)
  rw [hA, ef_si3_4]
  refine Win.st ?_ (fun tq kq => XS.aloadN X0.here hx rfl (hb hby d_jdk_42_method_3_0) rfl rfl kq)
  show Win p e below _ s₁ (mkF mt 1 #[.val (.ref a), .val (.ref c)] [(.ref a)])
  refine Win.st ?_ (fun tq kq => XS.aloadN X0.here hx rfl (hb hby d_jdk_42_method_3_1) rfl rfl kq)
  show Win p e below _ s₁ (mkF mt 2 #[.val (.ref a), .val (.ref c)] [(.ref c), (.ref a)])
  refine Win.st ?_ (fun tq kq => XS.iconst X0.here hx rfl (hb hby d_jdk_42_method_3_2) kq)
  show Win p e below _ s₁ (mkF mt 3 #[.val (.ref a), .val (.ref c)] [(.int (0 : Int32)), (.ref c), (.ref a)])
  refine Win.st ?_ (fun tq kq => XS.aloadN X0.here hx rfl (hb hby d_jdk_42_method_3_3) rfl rfl kq)
  show Win p e below _ s₁ (mkF mt 4 #[.val (.ref a), .val (.ref c)] [(.ref c), (.int (0 : Int32)), (.ref c), (.ref a)])
  refine Win.st ?_ (own_alen (g := (mkF mt 4 #[.val (.ref a), .val (.ref c)] [(.ref c), (.int (0 : Int32)), (.ref c), (.ref a)])) X0 hx hZ e0 VA rfl rfl (hb hby d_jdk_42_method_3_4))
  show Win p e below _ s₁ (mkF mt 5 #[.val (.ref a), .val (.ref c)] [(.int (4 : Int32)), (.int (0 : Int32)), (.ref c), (.ref a)])
  refine Win.st ?_ (fun tq kq => XS.aconstNull X0.here hx rfl (hb hby d_jdk_42_method_3_5) kq)
  show Win p e below _ s₁ (mkF mt 6 #[.val (.ref a), .val (.ref c)] [.null, (.int (4 : Int32)), (.int (0 : Int32)), (.ref c), (.ref a)])
  obtain ⟨v302, _, ⟨T302, L302, k302, n302⟩, -, X302, ⟨Lc302, hQ302, l302, y302, z302⟩, st302⟩ := X0.specialBack hx (y := (⟨"java/lang/String", "<init>", "([CIILjava/lang/Void;)V"⟩ : MethodName)) rfl hown (mvT hZ (hw _ (List.mem_of_getElem? (i := 15) rfl))) (mvT hZ (hw _ (List.mem_of_getElem? (i := 16) rfl))) (mvT hZ (hw _ (List.mem_of_getElem? (i := 18) rfl))) (by decide) (backOf (W := 0) (rm_si6_4 l Z a0 hw [] a c cs kc x0 x1 x2 x3 h0 n0 Z0 E Fv Fc ga S0 hcs O VA nca hp0 hp1 hp2 hp3) hZ (hw _ (List.mem_of_getElem? (i := 18) rfl)) (hw _ (List.mem_of_getElem? (i := 10) rfl)) (by decide) (by decide)) (g := (mkF mt 6 #[.val (.ref a), .val (.ref c)] [.null, (.int (4 : Int32)), (.int (0 : Int32)), (.ref c), (.ref a)])) rfl (by rw [hml]; rfl) (Steps.refl _) (a := a) (argsL := [(.ref c), (.int (0 : Int32)), (.int (4 : Int32)), .null]) (rest := []) (lenOf pd_1 rfl) rfl (by show 2 * 0 + _ ≤ _; exact Nat.le_of_eq rfl) (hb hby d_jdk_42_method_3_6) (fun _ _ => ⟨rfl, e0, (by decide : 0 + 1 ≤ _), (by decide : 0 + 4 ≤ _)⟩)
  dsimp only [Pt.U, Pt.locs, Pt.cells, Pt.slots] at X302 l302 y302 z302 st302 hQ302
  subst y302 z302
  replace X302 : Stand p l e _ s mt args below meth cd T302 L302 1 4 := X302
  obtain ⟨h302, e302⟩ : ∃ z, T302.heap = z := ⟨_, rfl⟩
  rw [e302] at hQ302
  obtain ⟨rfl, Nq302, K302, fc302, tt, kt, gt302, zt302, fv302, V302⟩ := hQ302
  have N302 : Fr n0 L302 := by rw [l302]; exact Fr.app N0 Nq302
  have f303_20 := O.keep K302 (allS ga all0)
  have f303_21 := E.keep K302
  have f303_22 := VA.keep K302 (ninS nca nin0)
  have Z304 : n0 ≤ h302.size := Nat.le_trans Z0 K302.1
  have K305 : Keep h0 h302 [a] := Keep.trans (Keep.refl h0 [a]) K302 (allS (Or.inl (List.mem_of_getElem? (i := 0) rfl)) all0)
  refine Win.tr ?_ st302
  show Win p e below _ T302 (mkF mt 9 #[.val (.ref a), .val (.ref c)] [])
  exact Win.retV X302 hx hlk e302 hrt (hb hby d_jdk_42_method_3_9) (by decide) (by decide) ⟨rfl, N302, K305, fc302, tt, kt, gt302, zt302, fv302, V302⟩
theorem d_method_4_87 : decode method_4_code 87 = .ok (.new 24, 3) := by decide +kernel
theorem d_method_4_90 : decode method_4_code 90 = .ok (.dup, 1) := by decide +kernel
theorem d_method_4_91 : decode method_4_code 91 = .ok (.iconst 4, 1) := by decide +kernel
theorem d_method_4_92 : decode method_4_code 92 = .ok (.newarray .char, 2) := by decide +kernel
theorem d_method_4_94 : decode method_4_code 94 = .ok (.dup, 1) := by decide +kernel
theorem d_method_4_95 : decode method_4_code 95 = .ok (.iconst 0, 1) := by decide +kernel
theorem d_method_4_96 : decode method_4_code 96 = .ok (.iload_n 1, 1) := by decide +kernel
theorem d_method_4_97 : decode method_4_code 97 = .ok (.castore, 1) := by decide +kernel
theorem d_method_4_98 : decode method_4_code 98 = .ok (.dup, 1) := by decide +kernel
theorem d_method_4_99 : decode method_4_code 99 = .ok (.iconst 1, 1) := by decide +kernel
theorem d_method_4_100 : decode method_4_code 100 = .ok (.iload_n 2, 1) := by decide +kernel
theorem d_method_4_101 : decode method_4_code 101 = .ok (.castore, 1) := by decide +kernel
theorem d_method_4_102 : decode method_4_code 102 = .ok (.dup, 1) := by decide +kernel
theorem d_method_4_103 : decode method_4_code 103 = .ok (.iconst 2, 1) := by decide +kernel
theorem d_method_4_104 : decode method_4_code 104 = .ok (.iload_n 3, 1) := by decide +kernel
theorem d_method_4_105 : decode method_4_code 105 = .ok (.castore, 1) := by decide +kernel
theorem d_method_4_106 : decode method_4_code 106 = .ok (.dup, 1) := by decide +kernel
theorem d_method_4_107 : decode method_4_code 107 = .ok (.iconst 3, 1) := by decide +kernel
theorem d_method_4_108 : decode method_4_code 108 = .ok (.iload 4, 2) := by decide +kernel
theorem d_method_4_110 : decode method_4_code 110 = .ok (.castore, 1) := by decide +kernel
theorem d_method_4_111 : decode method_4_code 111 = .ok (.invokespecial 26, 3) := by decide +kernel
theorem d_method_4_114 : decode method_4_code 114 = .ok (.areturn, 1) := by decide +kernel
theorem ef_make_4 (mt : MethodId) (x0 : Int32) (x1 : Int32) (x2 : Int32) (x3 : Int32) : entryFrame mt #[(.int (4 : Int32)), (.int x0), (.int x1), (.int x2), (.int x3)] 5 = mkF mt 0 #[.val (.int (4 : Int32)), .val (.int x0), .val (.int x1), .val (.int x2), .val (.int x3)] [] := by first | (simp [entryFrame, mkF, argsToLocals, Value.category]; done) | rfl
def Q_make_4 (Z : State) (x0 : Int32) (x1 : Int32) (x2 : Int32) (x3 : Int32) (cs : Int32) (h0 : Heap) (n0 : Nat) (v : Option Value) (h : Heap) (L : List Loc) : Prop := ∃ r : Addr, v = some (.ref r) ∧ Fr n0 L ∧ n0 ≤ h.size ∧ Old Z n0 h ∧ ∃ (t : Addr) (k : ClassId), Exa Z h r "java/lang/String" ∧ Fld Z h r "java/lang/String" "value" "[B" (.ref t) ∧ Fld Z h r "java/lang/String" "coder" "B" (.int (0 : Int32)) ∧ Arv Z h t k .byte (4 : Int32) [(.int (x0.toInt8.toInt32)), (.int (x1.toInt8.toInt32)), (.int (x2.toInt8.toInt32)), (.int (x3.toInt8.toInt32))] (.int (0 : Int32))
set_option maxRecDepth 65536 in
set_option maxHeartbeats 40000000 in
theorem rm_make_4 (l : Launch) (Z : State) (a0 : Array Value) (hw : ∀ d ∈ tables_1, d.before a0 Z = true) (ws : List Jvm.Cond) (x0 : Int32) (x1 : Int32) (x2 : Int32) (x3 : Int32) (cs : Int32) (h0 : Heap) (n0 : Nat) (Z0 : n0 ≤ h0.size) (S0 : Sta Z Z.heap "java/lang/String" "COMPACT_STRINGS" "Z" (.int cs)) (hcs : ¬ cs = (0 : Int32)) (O : Old Z n0 h0) (hp0 : own_B x0) (hp1 : own_B x1) (hp2 : own_B x2) (hp3 : own_B x3) :
    MetFree l (⟨"com/example/foldkey/foldkey/store/TokenHoldsSystemPinLaw", "make", "(ICCCC)Ljava/lang/String;"⟩ : MethodName) (head1 (Jvm.Cond.code (⟨"com/example/foldkey/foldkey/store/TokenHoldsSystemPinLaw", "make", "(ICCCC)Ljava/lang/String;"⟩ : MethodName) method_4_code 5 (some (.object "java/lang/String")) :: ws) ({ frames := 4, cells := 3, slots := 12, locals := 66 } : Room)) (fun aa UU => aa = #[(.int (4 : Int32)), (.int x0), (.int x1), (.int x2), (.int x3)] ∧ Z.Warmed39 UU.vm ∧ UU.heap = h0) (fun _ _ _ _ _ => True) (fun _ UU oo UU' => ∃ vv LL, oo = .returned vv ∧ Q_make_4 Z x0 x1 x2 x3 cs h0 n0 vv UU'.heap LL ∧ FrameEnd UU oo UU' LL ({ frames := 4, cells := 3, slots := 12, locals := 66 } : Room).cells ({ frames := 4, cells := 3, slots := 12, locals := 66 } : Room).slots) := by
  refine MetFree.of_bodySF (plainFor_of_name pn_2) hisR ?_
  intro p e s mt args below meth cd s₁ Bd hml0 hP hK
  obtain ⟨hA, hZ, hh⟩ := hP
  have hx := Bd.exec
  have hby := Bd.bytes
  have hml : cd.maxLocals = 5 := hml0
  have hown : s.vm.findClass "com/example/foldkey/foldkey/store/TokenHoldsSystemPinLaw" = some mt.cls := findClass_of_methodNamed Bd.named
  have hnm := (name_of_methodNamed Bd.named Bd.method).1
  have hlk : meth.locks = false := BodyLoose.notSynchronized Bd
  have hrt := Bd.returns
  have X0 : Stand p l e ({ frames := 4, cells := 3, slots := 12, locals := 66 } : Room) s mt args below meth cd s₁ [] 0 0 := Stand.of_body Bd
  have e0 : s₁.heap = h0 := by rw [← hh, Bd.state]; rfl
  have N0 := Fr.nil n0
  show Win p e below (Ends s (Q_make_4 Z x0 x1 x2 x3 cs h0 n0) ({ frames := 4, cells := 3, slots := 12, locals := 66 } : Room).cells ({ frames := 4, cells := 3, slots := 12, locals := 66 } : Room).slots) s₁ (entryFrame mt args 5)
  rw [hA, ef_make_4]
  refine Win.st ?_ (fun tq kq => XS.iloadN X0.here hx rfl (hb hby d_method_4_0) rfl kq)
  show Win p e below _ s₁ (mkF mt 1 #[.val (.int (4 : Int32)), .val (.int x0), .val (.int x1), .val (.int x2), .val (.int x3)] [(.int (4 : Int32))])
  refine Win.st ?_ (fun tq kq => XS.ifYes X0.here hx rfl (pc0 := 1) (pc' := 15) rfl (hb hby d_method_4_1) rfl ((if0 _ _).trans (feq (by decide : ¬ ((4 : Int32) = (0 : Int32)))).2) (by decide) (by decide) kq)
  show Win p e below _ s₁ (mkF mt 15 #[.val (.int (4 : Int32)), .val (.int x0), .val (.int x1), .val (.int x2), .val (.int x3)] [])
  refine Win.st ?_ (fun tq kq => XS.iloadN X0.here hx rfl (hb hby d_method_4_15) rfl kq)
  show Win p e below _ s₁ (mkF mt 16 #[.val (.int (4 : Int32)), .val (.int x0), .val (.int x1), .val (.int x2), .val (.int x3)] [(.int (4 : Int32))])
  refine Win.st ?_ (fun tq kq => XS.iconst X0.here hx rfl (hb hby d_method_4_16) kq)
  show Win p e below _ s₁ (mkF mt 17 #[.val (.int (4 : Int32)), .val (.int x0), .val (.int x1), .val (.int x2), .val (.int x3)] [(.int (1 : Int32)), (.int (4 : Int32))])
  refine Win.st ?_ (fun tq kq => XS.icmpYes X0.here hx rfl (pc0 := 17) (pc' := 35) rfl (hb hby d_method_4_17) rfl (feq (by decide : ¬ ((4 : Int32) = (1 : Int32)))).2 (by decide) (by decide) kq)
  show Win p e below _ s₁ (mkF mt 35 #[.val (.int (4 : Int32)), .val (.int x0), .val (.int x1), .val (.int x2), .val (.int x3)] [])
  refine Win.st ?_ (fun tq kq => XS.iloadN X0.here hx rfl (hb hby d_method_4_35) rfl kq)
  show Win p e below _ s₁ (mkF mt 36 #[.val (.int (4 : Int32)), .val (.int x0), .val (.int x1), .val (.int x2), .val (.int x3)] [(.int (4 : Int32))])
  refine Win.st ?_ (fun tq kq => XS.iconst X0.here hx rfl (hb hby d_method_4_36) kq)
  show Win p e below _ s₁ (mkF mt 37 #[.val (.int (4 : Int32)), .val (.int x0), .val (.int x1), .val (.int x2), .val (.int x3)] [(.int (2 : Int32)), (.int (4 : Int32))])
  refine Win.st ?_ (fun tq kq => XS.icmpYes X0.here hx rfl (pc0 := 37) (pc' := 59) rfl (hb hby d_method_4_37) rfl (feq (by decide : ¬ ((4 : Int32) = (2 : Int32)))).2 (by decide) (by decide) kq)
  show Win p e below _ s₁ (mkF mt 59 #[.val (.int (4 : Int32)), .val (.int x0), .val (.int x1), .val (.int x2), .val (.int x3)] [])
  refine Win.st ?_ (fun tq kq => XS.iloadN X0.here hx rfl (hb hby d_method_4_59) rfl kq)
  show Win p e below _ s₁ (mkF mt 60 #[.val (.int (4 : Int32)), .val (.int x0), .val (.int x1), .val (.int x2), .val (.int x3)] [(.int (4 : Int32))])
  refine Win.st ?_ (fun tq kq => XS.iconst X0.here hx rfl (hb hby d_method_4_60) kq)
  show Win p e below _ s₁ (mkF mt 61 #[.val (.int (4 : Int32)), .val (.int x0), .val (.int x1), .val (.int x2), .val (.int x3)] [(.int (3 : Int32)), (.int (4 : Int32))])
  refine Win.st ?_ (fun tq kq => XS.icmpYes X0.here hx rfl (pc0 := 61) (pc' := 87) rfl (hb hby d_method_4_61) rfl (feq (by decide : ¬ ((4 : Int32) = (3 : Int32)))).2 (by decide) (by decide) kq)
  show Win p e below _ s₁ (mkF mt 87 #[.val (.int (4 : Int32)), .val (.int x0), .val (.int x1), .val (.int x2), .val (.int x3)] [])
  obtain ⟨T306, h306, X306, e306, E306, A306, D306, -, st306⟩ := newO X0 hx hZ hown (hw _ (List.mem_of_getElem? (i := 8) rfl)) (hw _ (List.mem_of_getElem? (i := 9) rfl)) (hw _ (List.mem_of_getElem? (i := 10) rfl)) e0 (g := (mkF mt 87 #[.val (.int (4 : Int32)), .val (.int x0), .val (.int x1), .val (.int x2), .val (.int x3)] [])) rfl (hb hby d_method_4_87) (by decide) (by decide)
  obtain ⟨b306, gq306⟩ : ∃ z, z = h0.size := ⟨_, rfl⟩
  rw [← gq306] at A306 D306 st306
  have g307 : n0 ≤ b306 := own_newle Z0 gq306
  have ke306 := own_kext E306
  replace X306 : Stand p l e _ s mt args below meth cd T306 _ 1 4 := X306
  have f308_28 := O.keep ke306 all0
  have Z309 : n0 ≤ h306.size := Nat.le_trans Z0 ke306.1
  have fn306_value : Fld Z h306 b306 "java/lang/String" "value" "[B" .null := D306 (Or.inr (hw _ (List.mem_of_getElem? (i := 24) rfl))) (ty := (.array .byte)) (by decide)
  have fn306_coder : Fld Z h306 b306 "java/lang/String" "coder" "B" (.int (0 : Int32)) := D306 (Or.inr (hw _ (List.mem_of_getElem? (i := 25) rfl))) (ty := .byte) (by decide)
  refine Win.st ?_ st306
  show Win p e below _ T306 (mkF mt 90 #[.val (.int (4 : Int32)), .val (.int x0), .val (.int x1), .val (.int x2), .val (.int x3)] [(.ref b306)])
  refine Win.st ?_ (fun tq kq => XS.dup X306.here hx rfl (hb hby d_method_4_90) rfl rfl kq)
  show Win p e below _ T306 (mkF mt 91 #[.val (.int (4 : Int32)), .val (.int x0), .val (.int x1), .val (.int x2), .val (.int x3)] [(.ref b306), (.ref b306)])
  refine Win.st ?_ (fun tq kq => XS.iconst X306.here hx rfl (hb hby d_method_4_91) kq)
  show Win p e below _ T306 (mkF mt 92 #[.val (.int (4 : Int32)), .val (.int x0), .val (.int x1), .val (.int x2), .val (.int x3)] [(.int (4 : Int32)), (.ref b306), (.ref b306)])
  obtain ⟨T310, h310, k310, X310, e310, E310, A310, st310⟩ := newP X306 hx hZ (hw _ (List.mem_of_getElem? (i := 11) rfl)) e306 (g := (mkF mt 92 #[.val (.int (4 : Int32)), .val (.int x0), .val (.int x1), .val (.int x2), .val (.int x3)] [(.int (4 : Int32)), (.ref b306), (.ref b306)])) rfl (hb hby d_method_4_92) rfl (by decide) (cap := 4) (by decide) (by decide) (by decide) (by decide)
  obtain ⟨b310, gq310⟩ : ∃ z, z = h306.size := ⟨_, rfl⟩
  rw [← gq310] at A310 st310
  have ne311 : b306 ≠ b310 := own_new gq310 A306.lt
  have g312 : n0 ≤ b310 := own_newle Z309 gq310
  have ke310 := own_kext E310
  replace X310 : Stand p l e _ s mt args below meth cd T310 _ 2 8 := X310
  have f313_45 := f308_28.keep ke310 all0
  have f313_46 := A306.keep ke310
  have f313_47 := fn306_value.keep ke310 nin0
  have f313_48 := fn306_coder.keep ke310 nin0
  have Z314 : n0 ≤ h310.size := Nat.le_trans Z309 ke310.1
  have V310 : Arv Z h310 b310 k310 .char (4 : Int32) [(.int (0 : Int32)), (.int (0 : Int32)), (.int (0 : Int32)), (.int (0 : Int32))] (.int (0 : Int32)) := (Arv.new A310 (by decide)).pad (pad_rep [] (.int (0 : Int32)) 4)
  refine Win.st ?_ st310
  show Win p e below _ T310 (mkF mt 94 #[.val (.int (4 : Int32)), .val (.int x0), .val (.int x1), .val (.int x2), .val (.int x3)] [(.ref b310), (.ref b306), (.ref b306)])
  refine Win.st ?_ (fun tq kq => XS.dup X310.here hx rfl (hb hby d_method_4_94) rfl rfl kq)
  show Win p e below _ T310 (mkF mt 95 #[.val (.int (4 : Int32)), .val (.int x0), .val (.int x1), .val (.int x2), .val (.int x3)] [(.ref b310), (.ref b310), (.ref b306), (.ref b306)])
  refine Win.st ?_ (fun tq kq => XS.iconst X310.here hx rfl (hb hby d_method_4_95) kq)
  show Win p e below _ T310 (mkF mt 96 #[.val (.int (4 : Int32)), .val (.int x0), .val (.int x1), .val (.int x2), .val (.int x3)] [(.int (0 : Int32)), (.ref b310), (.ref b310), (.ref b306), (.ref b306)])
  refine Win.st ?_ (fun tq kq => XS.iloadN X310.here hx rfl (hb hby d_method_4_96) rfl kq)
  show Win p e below _ T310 (mkF mt 97 #[.val (.int (4 : Int32)), .val (.int x0), .val (.int x1), .val (.int x2), .val (.int x3)] [(.int x0), (.int (0 : Int32)), (.ref b310), (.ref b310), (.ref b306), (.ref b306)])
  obtain ⟨T315, h315, L315, X315, N315, e315, kp315, V315, st315⟩ := own_cast (g := (mkF mt 97 #[.val (.int (4 : Int32)), .val (.int x0), .val (.int x1), .val (.int x2), .val (.int x3)] [(.int x0), (.int (0 : Int32)), (.ref b310), (.ref b310), (.ref b306), (.ref b306)])) X310 hx hZ e310 N0 g312 V310 (j := (0 : Int32)) (by decide) (by decide) (i := 0) rfl (by simp) rfl rfl (hb hby d_method_4_97)
  rw [own_char hp0] at V315
  replace V315 : Arv Z h315 b310 k310 .char (4 : Int32) ([(.int x0), (.int (0 : Int32)), (.int (0 : Int32)), (.int (0 : Int32))]) (.int (0 : Int32)) := V315
  have f316_62 := f313_45.keep kp315 (allS g312 all0)
  have f316_63 := f313_46.keep kp315
  have f316_64 := f313_47.keep kp315 (ninS ne311 nin0)
  have f316_65 := f313_48.keep kp315 (ninS ne311 nin0)
  have Z317 : n0 ≤ h315.size := Nat.le_trans Z314 kp315.1
  refine Win.st ?_ st315
  show Win p e below _ T315 (mkF mt 98 #[.val (.int (4 : Int32)), .val (.int x0), .val (.int x1), .val (.int x2), .val (.int x3)] [(.ref b310), (.ref b306), (.ref b306)])
  refine Win.st ?_ (fun tq kq => XS.dup X315.here hx rfl (hb hby d_method_4_98) rfl rfl kq)
  show Win p e below _ T315 (mkF mt 99 #[.val (.int (4 : Int32)), .val (.int x0), .val (.int x1), .val (.int x2), .val (.int x3)] [(.ref b310), (.ref b310), (.ref b306), (.ref b306)])
  refine Win.st ?_ (fun tq kq => XS.iconst X315.here hx rfl (hb hby d_method_4_99) kq)
  show Win p e below _ T315 (mkF mt 100 #[.val (.int (4 : Int32)), .val (.int x0), .val (.int x1), .val (.int x2), .val (.int x3)] [(.int (1 : Int32)), (.ref b310), (.ref b310), (.ref b306), (.ref b306)])
  refine Win.st ?_ (fun tq kq => XS.iloadN X315.here hx rfl (hb hby d_method_4_100) rfl kq)
  show Win p e below _ T315 (mkF mt 101 #[.val (.int (4 : Int32)), .val (.int x0), .val (.int x1), .val (.int x2), .val (.int x3)] [(.int x1), (.int (1 : Int32)), (.ref b310), (.ref b310), (.ref b306), (.ref b306)])
  obtain ⟨T318, h318, L318, X318, N318, e318, kp318, V318, st318⟩ := own_cast (g := (mkF mt 101 #[.val (.int (4 : Int32)), .val (.int x0), .val (.int x1), .val (.int x2), .val (.int x3)] [(.int x1), (.int (1 : Int32)), (.ref b310), (.ref b310), (.ref b306), (.ref b306)])) X315 hx hZ e315 N315 g312 V315 (j := (1 : Int32)) (by decide) (by decide) (i := 1) rfl (by simp) rfl rfl (hb hby d_method_4_101)
  rw [own_char hp1] at V318
  replace V318 : Arv Z h318 b310 k310 .char (4 : Int32) ([(.int x0), (.int x1), (.int (0 : Int32)), (.int (0 : Int32))]) (.int (0 : Int32)) := V318
  have f319_78 := f316_62.keep kp318 (allS g312 all0)
  have f319_79 := f316_63.keep kp318
  have f319_80 := f316_64.keep kp318 (ninS ne311 nin0)
  have f319_81 := f316_65.keep kp318 (ninS ne311 nin0)
  have Z320 : n0 ≤ h318.size := Nat.le_trans Z317 kp318.1
  refine Win.st ?_ st318
  show Win p e below _ T318 (mkF mt 102 #[.val (.int (4 : Int32)), .val (.int x0), .val (.int x1), .val (.int x2), .val (.int x3)] [(.ref b310), (.ref b306), (.ref b306)])
  refine Win.st ?_ (fun tq kq => XS.dup X318.here hx rfl (hb hby d_method_4_102) rfl rfl kq)
  show Win p e below _ T318 (mkF mt 103 #[.val (.int (4 : Int32)), .val (.int x0), .val (.int x1), .val (.int x2), .val (.int x3)] [(.ref b310), (.ref b310), (.ref b306), (.ref b306)])
  refine Win.st ?_ (fun tq kq => XS.iconst X318.here hx rfl (hb hby d_method_4_103) kq)
  show Win p e below _ T318 (mkF mt 104 #[.val (.int (4 : Int32)), .val (.int x0), .val (.int x1), .val (.int x2), .val (.int x3)] [(.int (2 : Int32)), (.ref b310), (.ref b310), (.ref b306), (.ref b306)])
  refine Win.st ?_ (fun tq kq => XS.iloadN X318.here hx rfl (hb hby d_method_4_104) rfl kq)
  show Win p e below _ T318 (mkF mt 105 #[.val (.int (4 : Int32)), .val (.int x0), .val (.int x1), .val (.int x2), .val (.int x3)] [(.int x2), (.int (2 : Int32)), (.ref b310), (.ref b310), (.ref b306), (.ref b306)])
  obtain ⟨T321, h321, L321, X321, N321, e321, kp321, V321, st321⟩ := own_cast (g := (mkF mt 105 #[.val (.int (4 : Int32)), .val (.int x0), .val (.int x1), .val (.int x2), .val (.int x3)] [(.int x2), (.int (2 : Int32)), (.ref b310), (.ref b310), (.ref b306), (.ref b306)])) X318 hx hZ e318 N318 g312 V318 (j := (2 : Int32)) (by decide) (by decide) (i := 2) rfl (by simp) rfl rfl (hb hby d_method_4_105)
  rw [own_char hp2] at V321
  replace V321 : Arv Z h321 b310 k310 .char (4 : Int32) ([(.int x0), (.int x1), (.int x2), (.int (0 : Int32))]) (.int (0 : Int32)) := V321
  have f322_94 := f319_78.keep kp321 (allS g312 all0)
  have f322_95 := f319_79.keep kp321
  have f322_96 := f319_80.keep kp321 (ninS ne311 nin0)
  have f322_97 := f319_81.keep kp321 (ninS ne311 nin0)
  have Z323 : n0 ≤ h321.size := Nat.le_trans Z320 kp321.1
  refine Win.st ?_ st321
  show Win p e below _ T321 (mkF mt 106 #[.val (.int (4 : Int32)), .val (.int x0), .val (.int x1), .val (.int x2), .val (.int x3)] [(.ref b310), (.ref b306), (.ref b306)])
  refine Win.st ?_ (fun tq kq => XS.dup X321.here hx rfl (hb hby d_method_4_106) rfl rfl kq)
  show Win p e below _ T321 (mkF mt 107 #[.val (.int (4 : Int32)), .val (.int x0), .val (.int x1), .val (.int x2), .val (.int x3)] [(.ref b310), (.ref b310), (.ref b306), (.ref b306)])
  refine Win.st ?_ (fun tq kq => XS.iconst X321.here hx rfl (hb hby d_method_4_107) kq)
  show Win p e below _ T321 (mkF mt 108 #[.val (.int (4 : Int32)), .val (.int x0), .val (.int x1), .val (.int x2), .val (.int x3)] [(.int (3 : Int32)), (.ref b310), (.ref b310), (.ref b306), (.ref b306)])
  refine Win.st ?_ (fun tq kq => XS.iload X321.here hx rfl (hb hby d_method_4_108) rfl kq)
  show Win p e below _ T321 (mkF mt 110 #[.val (.int (4 : Int32)), .val (.int x0), .val (.int x1), .val (.int x2), .val (.int x3)] [(.int x3), (.int (3 : Int32)), (.ref b310), (.ref b310), (.ref b306), (.ref b306)])
  obtain ⟨T324, h324, L324, X324, N324, e324, kp324, V324, st324⟩ := own_cast (g := (mkF mt 110 #[.val (.int (4 : Int32)), .val (.int x0), .val (.int x1), .val (.int x2), .val (.int x3)] [(.int x3), (.int (3 : Int32)), (.ref b310), (.ref b310), (.ref b306), (.ref b306)])) X321 hx hZ e321 N321 g312 V321 (j := (3 : Int32)) (by decide) (by decide) (i := 3) rfl (by simp) rfl rfl (hb hby d_method_4_110)
  rw [own_char hp3] at V324
  replace V324 : Arv Z h324 b310 k310 .char (4 : Int32) ([(.int x0), (.int x1), (.int x2), (.int x3)]) (.int (0 : Int32)) := V324
  have f325_110 := f322_94.keep kp324 (allS g312 all0)
  have f325_111 := f322_95.keep kp324
  have f325_112 := f322_96.keep kp324 (ninS ne311 nin0)
  have f325_113 := f322_97.keep kp324 (ninS ne311 nin0)
  have Z326 : n0 ≤ h324.size := Nat.le_trans Z323 kp324.1
  refine Win.st ?_ st324
  show Win p e below _ T324 (mkF mt 111 #[.val (.int (4 : Int32)), .val (.int x0), .val (.int x1), .val (.int x2), .val (.int x3)] [(.ref b310), (.ref b306), (.ref b306)])
  obtain ⟨v327, _, ⟨T327, L327, k327, n327⟩, -, X327, ⟨Lc327, hQ327, l327, y327, z327⟩, st327⟩ := X324.specialBack hx (y := (⟨"java/lang/String", "<init>", "([C)V"⟩ : MethodName)) rfl hown (mvT hZ (hw _ (List.mem_of_getElem? (i := 12) rfl))) (mvT hZ (hw _ (List.mem_of_getElem? (i := 13) rfl))) (mvT hZ (hw _ (List.mem_of_getElem? (i := 14) rfl))) (by decide) (backOf (W := 1) (rm_si3_4 l Z a0 hw [] b306 b310 cs k310 x0 x1 x2 x3 h324 n0 Z326 f325_111 f325_112 f325_113 g307 S0 hcs f325_110 V324 (Ne.symm ne311) hp0 hp1 hp2 hp3) hZ (hw _ (List.mem_of_getElem? (i := 14) rfl)) (hw _ (List.mem_of_getElem? (i := 10) rfl)) (by decide) (by decide)) (g := (mkF mt 111 #[.val (.int (4 : Int32)), .val (.int x0), .val (.int x1), .val (.int x2), .val (.int x3)] [(.ref b310), (.ref b306), (.ref b306)])) rfl (by rw [hml]; rfl) (Steps.refl _) (a := b306) (argsL := [(.ref b310)]) (rest := [(.ref b306)]) (lenOf pd_2 rfl) rfl (by show 2 * 0 + _ ≤ _; exact Nat.le_of_eq rfl) (hb hby d_method_4_111) (fun _ _ => ⟨rfl, e324, (by decide : 2 + 1 ≤ _), (by decide : 8 + 4 ≤ _)⟩)
  dsimp only [Pt.U, Pt.locs, Pt.cells, Pt.slots] at X327 l327 y327 z327 st327 hQ327
  subst y327 z327
  replace X327 : Stand p l e _ s mt args below meth cd T327 L327 3 12 := X327
  obtain ⟨h327, e327⟩ : ∃ z, T327.heap = z := ⟨_, rfl⟩
  rw [e327] at hQ327
  obtain ⟨rfl, Nq327, K327, fc327, tt, kt, gt327, zt327, fv327, V327⟩ := hQ327
  have N327 : Fr n0 L327 := by rw [l327]; exact Fr.app N324 Nq327
  have f328_125 := f325_110.keep K327 (allS g307 all0)
  have f328_126 := f325_111.keep K327
  have f328_127 := V324.keep K327 (ninS (Ne.symm ne311) nin0)
  have Z329 : n0 ≤ h327.size := Nat.le_trans Z326 K327.1
  refine Win.tr ?_ st327
  show Win p e below _ T327 (mkF mt 114 #[.val (.int (4 : Int32)), .val (.int x0), .val (.int x1), .val (.int x2), .val (.int x3)] [(.ref b306)])
  exact Win.ret X327 hx hlk e327 hrt rfl (Or.inr (Or.inr (Or.inr (Or.inr ⟨rfl, rfl, rfl⟩)))) (hb hby d_method_4_114) (by decide) (by decide) ⟨_, rfl, N327, Z329, f328_125, tt, kt, f328_126, fv327, fc327, V327⟩
theorem ef_ioc_4 (mt : MethodId) (b : Addr) : entryFrame mt #[(.ref b), (.int (124 : Int32)), (.int (0 : Int32)), (.int (4 : Int32))] 6 = mkF mt 0 #[.val (.ref b), .val (.int (124 : Int32)), .val (.int (0 : Int32)), .val (.int (4 : Int32)), .unset, .unset] [] := by first | (simp [entryFrame, mkF, argsToLocals, Value.category]; done) | rfl
def Q_ioc_4 (Z : State) (b : Addr) (kb : ClassId) (x0 : Int32) (x1 : Int32) (x2 : Int32) (x3 : Int32) (h0 : Heap) (n0 : Nat) (v : Option Value) (h : Heap) (L : List Loc) : Prop := ∃ r : Int32, v = some (.int r) ∧ Fr n0 L ∧ h = h0 ∧ (r < 0 ↔ (¬ (x0 = (124 : Int32)) ∧ ¬ (x1 = (124 : Int32)) ∧ ¬ (x2 = (124 : Int32)) ∧ ¬ (x3 = (124 : Int32))))
set_option maxRecDepth 65536 in
set_option maxHeartbeats 40000000 in
theorem rm_ioc_4 (l : Launch) (Z : State) (a0 : Array Value) (hw : ∀ d ∈ tables_1, d.before a0 Z = true) (ws : List Jvm.Cond) (b : Addr) (kb : ClassId) (x0 : Int32) (x1 : Int32) (x2 : Int32) (x3 : Int32) (h0 : Heap) (n0 : Nat) (Z0 : n0 ≤ h0.size) (VB : Arv Z h0 b kb .byte (4 : Int32) [(.int (x0.toInt8.toInt32)), (.int (x1.toInt8.toInt32)), (.int (x2.toInt8.toInt32)), (.int (x3.toInt8.toInt32))] (.int (0 : Int32))) (hp0 : own_B x0) (hp1 : own_B x1) (hp2 : own_B x2) (hp3 : own_B x3) :
    MetFree l (⟨"java/lang/StringLatin1", "indexOfChar", "([BIII)I"⟩ : MethodName) (head1 (Jvm.Cond.code (⟨"java/lang/StringLatin1", "indexOfChar", "([BIII)I"⟩ : MethodName) jdk_43_method_23_code 6 (some .int) :: ws) ({ frames := 0, cells := 0, slots := 0, locals := 0 } : Room)) (fun aa UU => aa = #[(.ref b), (.int (124 : Int32)), (.int (0 : Int32)), (.int (4 : Int32))] ∧ Z.Warmed39 UU.vm ∧ UU.heap = h0) (fun _ _ _ _ _ => True) (fun _ UU oo UU' => ∃ vv LL, oo = .returned vv ∧ Q_ioc_4 Z b kb x0 x1 x2 x3 h0 n0 vv UU'.heap LL ∧ FrameEnd UU oo UU' LL ({ frames := 0, cells := 0, slots := 0, locals := 0 } : Room).cells ({ frames := 0, cells := 0, slots := 0, locals := 0 } : Room).slots) := by
  refine MetFree.of_bodySF (plainFor_of_name pn_0) hisR ?_
  intro p e s mt args below meth cd s₁ Bd hml0 hP hK
  obtain ⟨hA, hZ, hh⟩ := hP
  have hx := Bd.exec
  have hby := Bd.bytes
  have hml : cd.maxLocals = 6 := hml0
  have hown : s.vm.findClass "java/lang/StringLatin1" = some mt.cls := findClass_of_methodNamed Bd.named
  have hnm := (name_of_methodNamed Bd.named Bd.method).1
  have hlk : meth.locks = false := BodyLoose.notSynchronized Bd
  have hrt := Bd.returns
  have X0 : Stand p l e ({ frames := 0, cells := 0, slots := 0, locals := 0 } : Room) s mt args below meth cd s₁ [] 0 0 := Stand.of_body Bd
  have e0 : s₁.heap = h0 := by rw [← hh, Bd.state]; rfl
  have N0 := Fr.nil n0
  show Win p e below (Ends s (Q_ioc_4 Z b kb x0 x1 x2 x3 h0 n0) ({ frames := 0, cells := 0, slots := 0, locals := 0 } : Room).cells ({ frames := 0, cells := 0, slots := 0, locals := 0 } : Room).slots) s₁ (entryFrame mt args 6)
  rw [hA, ef_ioc_4]
  refine Win.st ?_ (fun tq kq => XS.iloadN X0.here hx rfl (hb hby d_jdk_43_method_23_0) rfl kq)
  show Win p e below _ s₁ (mkF mt 1 #[.val (.ref b), .val (.int (124 : Int32)), .val (.int (0 : Int32)), .val (.int (4 : Int32)), .unset, .unset] [(.int (124 : Int32))])
  refine Win.st ?_ (fun tq kq => XS.i2b X0.here hx rfl (hb hby d_jdk_43_method_23_1) rfl kq)
  show Win p e below _ s₁ (mkF mt 2 #[.val (.ref b), .val (.int (124 : Int32)), .val (.int (0 : Int32)), .val (.int (4 : Int32)), .unset, .unset] [(.int ((124 : Int32).toInt8.toInt32))])
  rw [show ((124 : Int32).toInt8.toInt32) = (124 : Int32) from by decide]
  show Win p e below _ s₁ (mkF mt 2 #[.val (.ref b), .val (.int (124 : Int32)), .val (.int (0 : Int32)), .val (.int (4 : Int32)), .unset, .unset] [(.int (124 : Int32))])
  refine Win.st ?_ (fun tq kq => XS.istore X0.here hx rfl (hb hby d_jdk_43_method_23_2) rfl (l' := #[.val (.ref b), .val (.int (124 : Int32)), .val (.int (0 : Int32)), .val (.int (4 : Int32)), .val (.int (124 : Int32)), .unset]) rfl kq)
  show Win p e below _ s₁ (mkF mt 4 #[.val (.ref b), .val (.int (124 : Int32)), .val (.int (0 : Int32)), .val (.int (4 : Int32)), .val (.int (124 : Int32)), .unset] [])
  refine Win.st ?_ (fun tq kq => XS.iloadN X0.here hx rfl (hb hby d_jdk_43_method_23_4) rfl kq)
  show Win p e below _ s₁ (mkF mt 5 #[.val (.ref b), .val (.int (124 : Int32)), .val (.int (0 : Int32)), .val (.int (4 : Int32)), .val (.int (124 : Int32)), .unset] [(.int (0 : Int32))])
  refine Win.st ?_ (fun tq kq => XS.istore X0.here hx rfl (hb hby d_jdk_43_method_23_5) rfl (l' := #[.val (.ref b), .val (.int (124 : Int32)), .val (.int (0 : Int32)), .val (.int (4 : Int32)), .val (.int (124 : Int32)), .val (.int (0 : Int32))]) rfl kq)
  show Win p e below _ s₁ (mkF mt 7 #[.val (.ref b), .val (.int (124 : Int32)), .val (.int (0 : Int32)), .val (.int (4 : Int32)), .val (.int (124 : Int32)), .val (.int (0 : Int32))] [])
  refine Win.st ?_ (fun tq kq => XS.iload X0.here hx rfl (hb hby d_jdk_43_method_23_7) rfl kq)
  show Win p e below _ s₁ (mkF mt 9 #[.val (.ref b), .val (.int (124 : Int32)), .val (.int (0 : Int32)), .val (.int (4 : Int32)), .val (.int (124 : Int32)), .val (.int (0 : Int32))] [(.int (0 : Int32))])
  refine Win.st ?_ (fun tq kq => XS.iloadN X0.here hx rfl (hb hby d_jdk_43_method_23_9) rfl kq)
  show Win p e below _ s₁ (mkF mt 10 #[.val (.ref b), .val (.int (124 : Int32)), .val (.int (0 : Int32)), .val (.int (4 : Int32)), .val (.int (124 : Int32)), .val (.int (0 : Int32))] [(.int (4 : Int32)), (.int (0 : Int32))])
  refine Win.st ?_ (fun tq kq => XS.icmpNo X0.here hx rfl (hb hby d_jdk_43_method_23_10) rfl (tlt (by decide : (0 : Int32) < (4 : Int32))).2.1 kq)
  show Win p e below _ s₁ (mkF mt 13 #[.val (.ref b), .val (.int (124 : Int32)), .val (.int (0 : Int32)), .val (.int (4 : Int32)), .val (.int (124 : Int32)), .val (.int (0 : Int32))] [])
  refine Win.st ?_ (fun tq kq => XS.aloadN X0.here hx rfl (hb hby d_jdk_43_method_23_13) rfl rfl kq)
  show Win p e below _ s₁ (mkF mt 14 #[.val (.ref b), .val (.int (124 : Int32)), .val (.int (0 : Int32)), .val (.int (4 : Int32)), .val (.int (124 : Int32)), .val (.int (0 : Int32))] [(.ref b)])
  refine Win.st ?_ (fun tq kq => XS.iload X0.here hx rfl (hb hby d_jdk_43_method_23_14) rfl kq)
  show Win p e below _ s₁ (mkF mt 16 #[.val (.ref b), .val (.int (124 : Int32)), .val (.int (0 : Int32)), .val (.int (4 : Int32)), .val (.int (124 : Int32)), .val (.int (0 : Int32))] [(.int (0 : Int32)), (.ref b)])
  refine Win.st ?_ (own_bald (g := (mkF mt 16 #[.val (.ref b), .val (.int (124 : Int32)), .val (.int (0 : Int32)), .val (.int (4 : Int32)), .val (.int (124 : Int32)), .val (.int (0 : Int32))] [(.int (0 : Int32)), (.ref b)])) X0 hx hZ e0 VB (j := (0 : Int32)) (v := (.int (x0.toInt8.toInt32))) (by decide) (by decide) rfl rfl rfl (hb hby d_jdk_43_method_23_16))
  show Win p e below _ s₁ (mkF mt 17 #[.val (.ref b), .val (.int (124 : Int32)), .val (.int (0 : Int32)), .val (.int (4 : Int32)), .val (.int (124 : Int32)), .val (.int (0 : Int32))] [(.int (x0.toInt8.toInt32))])
  refine Win.st ?_ (fun tq kq => XS.iload X0.here hx rfl (hb hby d_jdk_43_method_23_17) rfl kq)
  show Win p e below _ s₁ (mkF mt 19 #[.val (.ref b), .val (.int (124 : Int32)), .val (.int (0 : Int32)), .val (.int (4 : Int32)), .val (.int (124 : Int32)), .val (.int (0 : Int32))] [(.int (124 : Int32)), (.int (x0.toInt8.toInt32))])
  by_cases hc19 : (x0.toInt8.toInt32) = (124 : Int32)
  · refine Win.st ?_ (fun tq kq => XS.icmpNo X0.here hx rfl (hb hby d_jdk_43_method_23_19) rfl (teq hc19).2 kq)
    show Win p e below _ s₁ (mkF mt 22 #[.val (.ref b), .val (.int (124 : Int32)), .val (.int (0 : Int32)), .val (.int (4 : Int32)), .val (.int (124 : Int32)), .val (.int (0 : Int32))] [])
    refine Win.st ?_ (fun tq kq => XS.iload X0.here hx rfl (hb hby d_jdk_43_method_23_22) rfl kq)
    show Win p e below _ s₁ (mkF mt 24 #[.val (.ref b), .val (.int (124 : Int32)), .val (.int (0 : Int32)), .val (.int (4 : Int32)), .val (.int (124 : Int32)), .val (.int (0 : Int32))] [(.int (0 : Int32))])
    exact Win.ret X0 hx hlk e0 hrt rfl (Or.inl ⟨rfl, Or.inl rfl, _, rfl⟩) (hb hby d_jdk_43_method_23_24) (by decide) (by decide) ⟨_, rfl, N0, rfl, ⟨fun q => absurd q (by decide), fun q => absurd (own_b124 hp0 hc19) (q.1)⟩⟩
  · refine Win.st ?_ (fun tq kq => XS.icmpYes X0.here hx rfl (pc0 := 19) (pc' := 25) rfl (hb hby d_jdk_43_method_23_19) rfl (feq hc19).2 (by decide) (by decide) kq)
    show Win p e below _ s₁ (mkF mt 25 #[.val (.ref b), .val (.int (124 : Int32)), .val (.int (0 : Int32)), .val (.int (4 : Int32)), .val (.int (124 : Int32)), .val (.int (0 : Int32))] [])
    refine Win.st ?_ (fun tq kq => XS.iinc X0.here hx rfl (hb hby d_jdk_43_method_23_25) rfl (l' := #[.val (.ref b), .val (.int (124 : Int32)), .val (.int (0 : Int32)), .val (.int (4 : Int32)), .val (.int (124 : Int32)), .val (.int (1 : Int32))]) rfl kq)
    show Win p e below _ s₁ (mkF mt 28 #[.val (.ref b), .val (.int (124 : Int32)), .val (.int (0 : Int32)), .val (.int (4 : Int32)), .val (.int (124 : Int32)), .val (.int (1 : Int32))] [])
    refine Win.st ?_ (fun tq kq => XS.goto X0.here hx rfl (pc0 := 28) (pc' := 7) rfl (hb hby d_jdk_43_method_23_28) (by decide) (by decide) kq)
    show Win p e below _ s₁ (mkF mt 7 #[.val (.ref b), .val (.int (124 : Int32)), .val (.int (0 : Int32)), .val (.int (4 : Int32)), .val (.int (124 : Int32)), .val (.int (1 : Int32))] [])
    refine Win.st ?_ (fun tq kq => XS.iload X0.here hx rfl (hb hby d_jdk_43_method_23_7) rfl kq)
    show Win p e below _ s₁ (mkF mt 9 #[.val (.ref b), .val (.int (124 : Int32)), .val (.int (0 : Int32)), .val (.int (4 : Int32)), .val (.int (124 : Int32)), .val (.int (1 : Int32))] [(.int (1 : Int32))])
    refine Win.st ?_ (fun tq kq => XS.iloadN X0.here hx rfl (hb hby d_jdk_43_method_23_9) rfl kq)
    show Win p e below _ s₁ (mkF mt 10 #[.val (.ref b), .val (.int (124 : Int32)), .val (.int (0 : Int32)), .val (.int (4 : Int32)), .val (.int (124 : Int32)), .val (.int (1 : Int32))] [(.int (4 : Int32)), (.int (1 : Int32))])
    refine Win.st ?_ (fun tq kq => XS.icmpNo X0.here hx rfl (hb hby d_jdk_43_method_23_10) rfl (tlt (by decide : (1 : Int32) < (4 : Int32))).2.1 kq)
    show Win p e below _ s₁ (mkF mt 13 #[.val (.ref b), .val (.int (124 : Int32)), .val (.int (0 : Int32)), .val (.int (4 : Int32)), .val (.int (124 : Int32)), .val (.int (1 : Int32))] [])
    refine Win.st ?_ (fun tq kq => XS.aloadN X0.here hx rfl (hb hby d_jdk_43_method_23_13) rfl rfl kq)
    show Win p e below _ s₁ (mkF mt 14 #[.val (.ref b), .val (.int (124 : Int32)), .val (.int (0 : Int32)), .val (.int (4 : Int32)), .val (.int (124 : Int32)), .val (.int (1 : Int32))] [(.ref b)])
    refine Win.st ?_ (fun tq kq => XS.iload X0.here hx rfl (hb hby d_jdk_43_method_23_14) rfl kq)
    show Win p e below _ s₁ (mkF mt 16 #[.val (.ref b), .val (.int (124 : Int32)), .val (.int (0 : Int32)), .val (.int (4 : Int32)), .val (.int (124 : Int32)), .val (.int (1 : Int32))] [(.int (1 : Int32)), (.ref b)])
    refine Win.st ?_ (own_bald (g := (mkF mt 16 #[.val (.ref b), .val (.int (124 : Int32)), .val (.int (0 : Int32)), .val (.int (4 : Int32)), .val (.int (124 : Int32)), .val (.int (1 : Int32))] [(.int (1 : Int32)), (.ref b)])) X0 hx hZ e0 VB (j := (1 : Int32)) (v := (.int (x1.toInt8.toInt32))) (by decide) (by decide) rfl rfl rfl (hb hby d_jdk_43_method_23_16))
    show Win p e below _ s₁ (mkF mt 17 #[.val (.ref b), .val (.int (124 : Int32)), .val (.int (0 : Int32)), .val (.int (4 : Int32)), .val (.int (124 : Int32)), .val (.int (1 : Int32))] [(.int (x1.toInt8.toInt32))])
    refine Win.st ?_ (fun tq kq => XS.iload X0.here hx rfl (hb hby d_jdk_43_method_23_17) rfl kq)
    show Win p e below _ s₁ (mkF mt 19 #[.val (.ref b), .val (.int (124 : Int32)), .val (.int (0 : Int32)), .val (.int (4 : Int32)), .val (.int (124 : Int32)), .val (.int (1 : Int32))] [(.int (124 : Int32)), (.int (x1.toInt8.toInt32))])
    by_cases hc19_330 : (x1.toInt8.toInt32) = (124 : Int32)
    · refine Win.st ?_ (fun tq kq => XS.icmpNo X0.here hx rfl (hb hby d_jdk_43_method_23_19) rfl (teq hc19_330).2 kq)
      show Win p e below _ s₁ (mkF mt 22 #[.val (.ref b), .val (.int (124 : Int32)), .val (.int (0 : Int32)), .val (.int (4 : Int32)), .val (.int (124 : Int32)), .val (.int (1 : Int32))] [])
      refine Win.st ?_ (fun tq kq => XS.iload X0.here hx rfl (hb hby d_jdk_43_method_23_22) rfl kq)
      show Win p e below _ s₁ (mkF mt 24 #[.val (.ref b), .val (.int (124 : Int32)), .val (.int (0 : Int32)), .val (.int (4 : Int32)), .val (.int (124 : Int32)), .val (.int (1 : Int32))] [(.int (1 : Int32))])
      exact Win.ret X0 hx hlk e0 hrt rfl (Or.inl ⟨rfl, Or.inl rfl, _, rfl⟩) (hb hby d_jdk_43_method_23_24) (by decide) (by decide) ⟨_, rfl, N0, rfl, ⟨fun q => absurd q (by decide), fun q => absurd (own_b124 hp1 hc19_330) (q.2.1)⟩⟩
    · refine Win.st ?_ (fun tq kq => XS.icmpYes X0.here hx rfl (pc0 := 19) (pc' := 25) rfl (hb hby d_jdk_43_method_23_19) rfl (feq hc19_330).2 (by decide) (by decide) kq)
      show Win p e below _ s₁ (mkF mt 25 #[.val (.ref b), .val (.int (124 : Int32)), .val (.int (0 : Int32)), .val (.int (4 : Int32)), .val (.int (124 : Int32)), .val (.int (1 : Int32))] [])
      refine Win.st ?_ (fun tq kq => XS.iinc X0.here hx rfl (hb hby d_jdk_43_method_23_25) rfl (l' := #[.val (.ref b), .val (.int (124 : Int32)), .val (.int (0 : Int32)), .val (.int (4 : Int32)), .val (.int (124 : Int32)), .val (.int (2 : Int32))]) rfl kq)
      show Win p e below _ s₁ (mkF mt 28 #[.val (.ref b), .val (.int (124 : Int32)), .val (.int (0 : Int32)), .val (.int (4 : Int32)), .val (.int (124 : Int32)), .val (.int (2 : Int32))] [])
      refine Win.st ?_ (fun tq kq => XS.goto X0.here hx rfl (pc0 := 28) (pc' := 7) rfl (hb hby d_jdk_43_method_23_28) (by decide) (by decide) kq)
      show Win p e below _ s₁ (mkF mt 7 #[.val (.ref b), .val (.int (124 : Int32)), .val (.int (0 : Int32)), .val (.int (4 : Int32)), .val (.int (124 : Int32)), .val (.int (2 : Int32))] [])
      refine Win.st ?_ (fun tq kq => XS.iload X0.here hx rfl (hb hby d_jdk_43_method_23_7) rfl kq)
      show Win p e below _ s₁ (mkF mt 9 #[.val (.ref b), .val (.int (124 : Int32)), .val (.int (0 : Int32)), .val (.int (4 : Int32)), .val (.int (124 : Int32)), .val (.int (2 : Int32))] [(.int (2 : Int32))])
      refine Win.st ?_ (fun tq kq => XS.iloadN X0.here hx rfl (hb hby d_jdk_43_method_23_9) rfl kq)
      show Win p e below _ s₁ (mkF mt 10 #[.val (.ref b), .val (.int (124 : Int32)), .val (.int (0 : Int32)), .val (.int (4 : Int32)), .val (.int (124 : Int32)), .val (.int (2 : Int32))] [(.int (4 : Int32)), (.int (2 : Int32))])
      refine Win.st ?_ (fun tq kq => XS.icmpNo X0.here hx rfl (hb hby d_jdk_43_method_23_10) rfl (tlt (by decide : (2 : Int32) < (4 : Int32))).2.1 kq)
      show Win p e below _ s₁ (mkF mt 13 #[.val (.ref b), .val (.int (124 : Int32)), .val (.int (0 : Int32)), .val (.int (4 : Int32)), .val (.int (124 : Int32)), .val (.int (2 : Int32))] [])
      refine Win.st ?_ (fun tq kq => XS.aloadN X0.here hx rfl (hb hby d_jdk_43_method_23_13) rfl rfl kq)
      show Win p e below _ s₁ (mkF mt 14 #[.val (.ref b), .val (.int (124 : Int32)), .val (.int (0 : Int32)), .val (.int (4 : Int32)), .val (.int (124 : Int32)), .val (.int (2 : Int32))] [(.ref b)])
      refine Win.st ?_ (fun tq kq => XS.iload X0.here hx rfl (hb hby d_jdk_43_method_23_14) rfl kq)
      show Win p e below _ s₁ (mkF mt 16 #[.val (.ref b), .val (.int (124 : Int32)), .val (.int (0 : Int32)), .val (.int (4 : Int32)), .val (.int (124 : Int32)), .val (.int (2 : Int32))] [(.int (2 : Int32)), (.ref b)])
      refine Win.st ?_ (own_bald (g := (mkF mt 16 #[.val (.ref b), .val (.int (124 : Int32)), .val (.int (0 : Int32)), .val (.int (4 : Int32)), .val (.int (124 : Int32)), .val (.int (2 : Int32))] [(.int (2 : Int32)), (.ref b)])) X0 hx hZ e0 VB (j := (2 : Int32)) (v := (.int (x2.toInt8.toInt32))) (by decide) (by decide) rfl rfl rfl (hb hby d_jdk_43_method_23_16))
      show Win p e below _ s₁ (mkF mt 17 #[.val (.ref b), .val (.int (124 : Int32)), .val (.int (0 : Int32)), .val (.int (4 : Int32)), .val (.int (124 : Int32)), .val (.int (2 : Int32))] [(.int (x2.toInt8.toInt32))])
      refine Win.st ?_ (fun tq kq => XS.iload X0.here hx rfl (hb hby d_jdk_43_method_23_17) rfl kq)
      show Win p e below _ s₁ (mkF mt 19 #[.val (.ref b), .val (.int (124 : Int32)), .val (.int (0 : Int32)), .val (.int (4 : Int32)), .val (.int (124 : Int32)), .val (.int (2 : Int32))] [(.int (124 : Int32)), (.int (x2.toInt8.toInt32))])
      by_cases hc19_331 : (x2.toInt8.toInt32) = (124 : Int32)
      · refine Win.st ?_ (fun tq kq => XS.icmpNo X0.here hx rfl (hb hby d_jdk_43_method_23_19) rfl (teq hc19_331).2 kq)
        show Win p e below _ s₁ (mkF mt 22 #[.val (.ref b), .val (.int (124 : Int32)), .val (.int (0 : Int32)), .val (.int (4 : Int32)), .val (.int (124 : Int32)), .val (.int (2 : Int32))] [])
        refine Win.st ?_ (fun tq kq => XS.iload X0.here hx rfl (hb hby d_jdk_43_method_23_22) rfl kq)
        show Win p e below _ s₁ (mkF mt 24 #[.val (.ref b), .val (.int (124 : Int32)), .val (.int (0 : Int32)), .val (.int (4 : Int32)), .val (.int (124 : Int32)), .val (.int (2 : Int32))] [(.int (2 : Int32))])
        exact Win.ret X0 hx hlk e0 hrt rfl (Or.inl ⟨rfl, Or.inl rfl, _, rfl⟩) (hb hby d_jdk_43_method_23_24) (by decide) (by decide) ⟨_, rfl, N0, rfl, ⟨fun q => absurd q (by decide), fun q => absurd (own_b124 hp2 hc19_331) (q.2.2.1)⟩⟩
      · refine Win.st ?_ (fun tq kq => XS.icmpYes X0.here hx rfl (pc0 := 19) (pc' := 25) rfl (hb hby d_jdk_43_method_23_19) rfl (feq hc19_331).2 (by decide) (by decide) kq)
        show Win p e below _ s₁ (mkF mt 25 #[.val (.ref b), .val (.int (124 : Int32)), .val (.int (0 : Int32)), .val (.int (4 : Int32)), .val (.int (124 : Int32)), .val (.int (2 : Int32))] [])
        refine Win.st ?_ (fun tq kq => XS.iinc X0.here hx rfl (hb hby d_jdk_43_method_23_25) rfl (l' := #[.val (.ref b), .val (.int (124 : Int32)), .val (.int (0 : Int32)), .val (.int (4 : Int32)), .val (.int (124 : Int32)), .val (.int (3 : Int32))]) rfl kq)
        show Win p e below _ s₁ (mkF mt 28 #[.val (.ref b), .val (.int (124 : Int32)), .val (.int (0 : Int32)), .val (.int (4 : Int32)), .val (.int (124 : Int32)), .val (.int (3 : Int32))] [])
        refine Win.st ?_ (fun tq kq => XS.goto X0.here hx rfl (pc0 := 28) (pc' := 7) rfl (hb hby d_jdk_43_method_23_28) (by decide) (by decide) kq)
        show Win p e below _ s₁ (mkF mt 7 #[.val (.ref b), .val (.int (124 : Int32)), .val (.int (0 : Int32)), .val (.int (4 : Int32)), .val (.int (124 : Int32)), .val (.int (3 : Int32))] [])
        refine Win.st ?_ (fun tq kq => XS.iload X0.here hx rfl (hb hby d_jdk_43_method_23_7) rfl kq)
        show Win p e below _ s₁ (mkF mt 9 #[.val (.ref b), .val (.int (124 : Int32)), .val (.int (0 : Int32)), .val (.int (4 : Int32)), .val (.int (124 : Int32)), .val (.int (3 : Int32))] [(.int (3 : Int32))])
        refine Win.st ?_ (fun tq kq => XS.iloadN X0.here hx rfl (hb hby d_jdk_43_method_23_9) rfl kq)
        show Win p e below _ s₁ (mkF mt 10 #[.val (.ref b), .val (.int (124 : Int32)), .val (.int (0 : Int32)), .val (.int (4 : Int32)), .val (.int (124 : Int32)), .val (.int (3 : Int32))] [(.int (4 : Int32)), (.int (3 : Int32))])
        refine Win.st ?_ (fun tq kq => XS.icmpNo X0.here hx rfl (hb hby d_jdk_43_method_23_10) rfl (tlt (by decide : (3 : Int32) < (4 : Int32))).2.1 kq)
        show Win p e below _ s₁ (mkF mt 13 #[.val (.ref b), .val (.int (124 : Int32)), .val (.int (0 : Int32)), .val (.int (4 : Int32)), .val (.int (124 : Int32)), .val (.int (3 : Int32))] [])
        refine Win.st ?_ (fun tq kq => XS.aloadN X0.here hx rfl (hb hby d_jdk_43_method_23_13) rfl rfl kq)
        show Win p e below _ s₁ (mkF mt 14 #[.val (.ref b), .val (.int (124 : Int32)), .val (.int (0 : Int32)), .val (.int (4 : Int32)), .val (.int (124 : Int32)), .val (.int (3 : Int32))] [(.ref b)])
        refine Win.st ?_ (fun tq kq => XS.iload X0.here hx rfl (hb hby d_jdk_43_method_23_14) rfl kq)
        show Win p e below _ s₁ (mkF mt 16 #[.val (.ref b), .val (.int (124 : Int32)), .val (.int (0 : Int32)), .val (.int (4 : Int32)), .val (.int (124 : Int32)), .val (.int (3 : Int32))] [(.int (3 : Int32)), (.ref b)])
        refine Win.st ?_ (own_bald (g := (mkF mt 16 #[.val (.ref b), .val (.int (124 : Int32)), .val (.int (0 : Int32)), .val (.int (4 : Int32)), .val (.int (124 : Int32)), .val (.int (3 : Int32))] [(.int (3 : Int32)), (.ref b)])) X0 hx hZ e0 VB (j := (3 : Int32)) (v := (.int (x3.toInt8.toInt32))) (by decide) (by decide) rfl rfl rfl (hb hby d_jdk_43_method_23_16))
        show Win p e below _ s₁ (mkF mt 17 #[.val (.ref b), .val (.int (124 : Int32)), .val (.int (0 : Int32)), .val (.int (4 : Int32)), .val (.int (124 : Int32)), .val (.int (3 : Int32))] [(.int (x3.toInt8.toInt32))])
        refine Win.st ?_ (fun tq kq => XS.iload X0.here hx rfl (hb hby d_jdk_43_method_23_17) rfl kq)
        show Win p e below _ s₁ (mkF mt 19 #[.val (.ref b), .val (.int (124 : Int32)), .val (.int (0 : Int32)), .val (.int (4 : Int32)), .val (.int (124 : Int32)), .val (.int (3 : Int32))] [(.int (124 : Int32)), (.int (x3.toInt8.toInt32))])
        by_cases hc19_332 : (x3.toInt8.toInt32) = (124 : Int32)
        · refine Win.st ?_ (fun tq kq => XS.icmpNo X0.here hx rfl (hb hby d_jdk_43_method_23_19) rfl (teq hc19_332).2 kq)
          show Win p e below _ s₁ (mkF mt 22 #[.val (.ref b), .val (.int (124 : Int32)), .val (.int (0 : Int32)), .val (.int (4 : Int32)), .val (.int (124 : Int32)), .val (.int (3 : Int32))] [])
          refine Win.st ?_ (fun tq kq => XS.iload X0.here hx rfl (hb hby d_jdk_43_method_23_22) rfl kq)
          show Win p e below _ s₁ (mkF mt 24 #[.val (.ref b), .val (.int (124 : Int32)), .val (.int (0 : Int32)), .val (.int (4 : Int32)), .val (.int (124 : Int32)), .val (.int (3 : Int32))] [(.int (3 : Int32))])
          exact Win.ret X0 hx hlk e0 hrt rfl (Or.inl ⟨rfl, Or.inl rfl, _, rfl⟩) (hb hby d_jdk_43_method_23_24) (by decide) (by decide) ⟨_, rfl, N0, rfl, ⟨fun q => absurd q (by decide), fun q => absurd (own_b124 hp3 hc19_332) (q.2.2.2)⟩⟩
        · refine Win.st ?_ (fun tq kq => XS.icmpYes X0.here hx rfl (pc0 := 19) (pc' := 25) rfl (hb hby d_jdk_43_method_23_19) rfl (feq hc19_332).2 (by decide) (by decide) kq)
          show Win p e below _ s₁ (mkF mt 25 #[.val (.ref b), .val (.int (124 : Int32)), .val (.int (0 : Int32)), .val (.int (4 : Int32)), .val (.int (124 : Int32)), .val (.int (3 : Int32))] [])
          refine Win.st ?_ (fun tq kq => XS.iinc X0.here hx rfl (hb hby d_jdk_43_method_23_25) rfl (l' := #[.val (.ref b), .val (.int (124 : Int32)), .val (.int (0 : Int32)), .val (.int (4 : Int32)), .val (.int (124 : Int32)), .val (.int (4 : Int32))]) rfl kq)
          show Win p e below _ s₁ (mkF mt 28 #[.val (.ref b), .val (.int (124 : Int32)), .val (.int (0 : Int32)), .val (.int (4 : Int32)), .val (.int (124 : Int32)), .val (.int (4 : Int32))] [])
          refine Win.st ?_ (fun tq kq => XS.goto X0.here hx rfl (pc0 := 28) (pc' := 7) rfl (hb hby d_jdk_43_method_23_28) (by decide) (by decide) kq)
          show Win p e below _ s₁ (mkF mt 7 #[.val (.ref b), .val (.int (124 : Int32)), .val (.int (0 : Int32)), .val (.int (4 : Int32)), .val (.int (124 : Int32)), .val (.int (4 : Int32))] [])
          refine Win.st ?_ (fun tq kq => XS.iload X0.here hx rfl (hb hby d_jdk_43_method_23_7) rfl kq)
          show Win p e below _ s₁ (mkF mt 9 #[.val (.ref b), .val (.int (124 : Int32)), .val (.int (0 : Int32)), .val (.int (4 : Int32)), .val (.int (124 : Int32)), .val (.int (4 : Int32))] [(.int (4 : Int32))])
          refine Win.st ?_ (fun tq kq => XS.iloadN X0.here hx rfl (hb hby d_jdk_43_method_23_9) rfl kq)
          show Win p e below _ s₁ (mkF mt 10 #[.val (.ref b), .val (.int (124 : Int32)), .val (.int (0 : Int32)), .val (.int (4 : Int32)), .val (.int (124 : Int32)), .val (.int (4 : Int32))] [(.int (4 : Int32)), (.int (4 : Int32))])
          refine Win.st ?_ (fun tq kq => XS.icmpYes X0.here hx rfl (pc0 := 10) (pc' := 31) rfl (hb hby d_jdk_43_method_23_10) rfl (flt (Int32.lt_irrefl)).2.1 (by decide) (by decide) kq)
          show Win p e below _ s₁ (mkF mt 31 #[.val (.ref b), .val (.int (124 : Int32)), .val (.int (0 : Int32)), .val (.int (4 : Int32)), .val (.int (124 : Int32)), .val (.int (4 : Int32))] [])
          refine Win.st ?_ (fun tq kq => XS.iconst X0.here hx rfl (hb hby d_jdk_43_method_23_31) kq)
          show Win p e below _ s₁ (mkF mt 32 #[.val (.ref b), .val (.int (124 : Int32)), .val (.int (0 : Int32)), .val (.int (4 : Int32)), .val (.int (124 : Int32)), .val (.int (4 : Int32))] [(.int (-1 : Int32))])
          exact Win.ret X0 hx hlk e0 hrt rfl (Or.inl ⟨rfl, Or.inl rfl, _, rfl⟩) (hb hby d_jdk_43_method_23_32) (by decide) (by decide) ⟨_, rfl, N0, rfl, ⟨fun _ => ⟨fun q => hc19 (by rw [q]; decide), fun q => hc19_330 (by rw [q]; decide), fun q => hc19_331 (by rw [q]; decide), fun q => hc19_332 (by rw [q]; decide)⟩, fun _ => by decide⟩⟩
theorem ef_lio_4 (mt : MethodId) (b : Addr) : entryFrame mt #[(.ref b), (.int (124 : Int32)), (.int (0 : Int32)), (.int (4 : Int32))] 4 = mkF mt 0 #[.val (.ref b), .val (.int (124 : Int32)), .val (.int (0 : Int32)), .val (.int (4 : Int32))] [] := by first | (simp [entryFrame, mkF, argsToLocals, Value.category]; done) | rfl
def Q_lio_4 (Z : State) (b : Addr) (kb : ClassId) (x0 : Int32) (x1 : Int32) (x2 : Int32) (x3 : Int32) (h0 : Heap) (n0 : Nat) (v : Option Value) (h : Heap) (L : List Loc) : Prop := ∃ r : Int32, v = some (.int r) ∧ Fr n0 L ∧ h = h0 ∧ (r < 0 ↔ (¬ (x0 = (124 : Int32)) ∧ ¬ (x1 = (124 : Int32)) ∧ ¬ (x2 = (124 : Int32)) ∧ ¬ (x3 = (124 : Int32))))
set_option maxRecDepth 65536 in
set_option maxHeartbeats 40000000 in
theorem rm_lio_4 (l : Launch) (Z : State) (a0 : Array Value) (hw : ∀ d ∈ tables_1, d.before a0 Z = true) (ws : List Jvm.Cond) (b : Addr) (kb : ClassId) (x0 : Int32) (x1 : Int32) (x2 : Int32) (x3 : Int32) (h0 : Heap) (n0 : Nat) (Z0 : n0 ≤ h0.size) (VB : Arv Z h0 b kb .byte (4 : Int32) [(.int (x0.toInt8.toInt32)), (.int (x1.toInt8.toInt32)), (.int (x2.toInt8.toInt32)), (.int (x3.toInt8.toInt32))] (.int (0 : Int32))) (hp0 : own_B x0) (hp1 : own_B x1) (hp2 : own_B x2) (hp3 : own_B x3) :
    MetFree l (⟨"java/lang/StringLatin1", "indexOf", "([BIII)I"⟩ : MethodName) (head1 (Jvm.Cond.code (⟨"java/lang/StringLatin1", "indexOf", "([BIII)I"⟩ : MethodName) jdk_43_method_22_code 4 (some .int) :: ws) ({ frames := 1, cells := 0, slots := 0, locals := 17 } : Room)) (fun aa UU => aa = #[(.ref b), (.int (124 : Int32)), (.int (0 : Int32)), (.int (4 : Int32))] ∧ Z.Warmed39 UU.vm ∧ UU.heap = h0) (fun _ _ _ _ _ => True) (fun _ UU oo UU' => ∃ vv LL, oo = .returned vv ∧ Q_lio_4 Z b kb x0 x1 x2 x3 h0 n0 vv UU'.heap LL ∧ FrameEnd UU oo UU' LL ({ frames := 1, cells := 0, slots := 0, locals := 17 } : Room).cells ({ frames := 1, cells := 0, slots := 0, locals := 17 } : Room).slots) := by
  refine MetFree.of_bodySF (plainFor_of_name pn_0) hisR ?_
  intro p e s mt args below meth cd s₁ Bd hml0 hP hK
  obtain ⟨hA, hZ, hh⟩ := hP
  have hx := Bd.exec
  have hby := Bd.bytes
  have hml : cd.maxLocals = 4 := hml0
  have hown : s.vm.findClass "java/lang/StringLatin1" = some mt.cls := findClass_of_methodNamed Bd.named
  have hnm := (name_of_methodNamed Bd.named Bd.method).1
  have hlk : meth.locks = false := BodyLoose.notSynchronized Bd
  have hrt := Bd.returns
  have X0 : Stand p l e ({ frames := 1, cells := 0, slots := 0, locals := 17 } : Room) s mt args below meth cd s₁ [] 0 0 := Stand.of_body Bd
  have e0 : s₁.heap = h0 := by rw [← hh, Bd.state]; rfl
  have N0 := Fr.nil n0
  show Win p e below (Ends s (Q_lio_4 Z b kb x0 x1 x2 x3 h0 n0) ({ frames := 1, cells := 0, slots := 0, locals := 17 } : Room).cells ({ frames := 1, cells := 0, slots := 0, locals := 17 } : Room).slots) s₁ (entryFrame mt args 4)
  rw [hA, ef_lio_4]
  refine Win.st ?_ (fun tq kq => XS.iloadN X0.here hx rfl (hb hby d_jdk_43_method_22_0) rfl kq)
  show Win p e below _ s₁ (mkF mt 1 #[.val (.ref b), .val (.int (124 : Int32)), .val (.int (0 : Int32)), .val (.int (4 : Int32))] [(.int (124 : Int32))])
  obtain ⟨v333, _, ⟨T333, L333, k333, n333⟩, -, X333, ⟨Lc333, hQ333, l333, y333, z333⟩, st333⟩ := Jvm.LawKit.callS X0 hx (y := (⟨"java/lang/StringLatin1", "canEncode", "(I)Z"⟩ : MethodName)) hown (mvT hZ (hw _ (List.mem_of_getElem? (i := 64) rfl))) (mvT hZ (hw _ (List.mem_of_getElem? (i := 65) rfl))) (mvT hZ (hw _ (List.mem_of_getElem? (i := 62) rfl))) (mvT hZ (hw _ (List.mem_of_getElem? (i := 66) rfl))) (by decide) (backOf (W := 0) (rm_cei l Z a0 hw [] (124 : Int32) h0 n0 Z0 (by decide) (by decide)) hZ (hw _ (List.mem_of_getElem? (i := 66) rfl)) (hw _ (List.mem_of_getElem? (i := 62) rfl)) (by decide) (by decide)) (g := (mkF mt 1 #[.val (.ref b), .val (.int (124 : Int32)), .val (.int (0 : Int32)), .val (.int (4 : Int32))] [(.int (124 : Int32))])) rfl (by rw [hml]; rfl) (argsL := [(.int (124 : Int32))]) (rest := []) (lenOf pd_3 rfl) rfl (by show 2 * 0 + _ ≤ _; exact Nat.le_of_eq rfl) (hb hby d_jdk_43_method_22_1) (fun _ _ => ⟨rfl, e0, (by decide : 0 + 0 ≤ _), (by decide : 0 + 0 ≤ _)⟩)
  dsimp only [Pt.U, Pt.locs, Pt.cells, Pt.slots] at X333 l333 y333 z333 st333 hQ333
  subst y333 z333
  replace X333 : Stand p l e _ s mt args below meth cd T333 L333 0 0 := X333
  obtain ⟨h333, e333⟩ : ∃ z, T333.heap = z := ⟨_, rfl⟩
  rw [e333] at hQ333
  obtain ⟨rfl, Nq333, eh333⟩ := hQ333
  have N333 : Fr n0 L333 := by rw [l333]; exact Fr.app N0 Nq333
  rw [eh333] at e333
  refine Win.st ?_ st333
  show Win p e below _ T333 (mkF mt 4 #[.val (.ref b), .val (.int (124 : Int32)), .val (.int (0 : Int32)), .val (.int (4 : Int32))] [(.int (1 : Int32))])
  refine Win.st ?_ (fun tq kq => XS.ifYes X333.here hx rfl (pc0 := 4) (pc' := 9) rfl (hb hby d_jdk_43_method_22_4) rfl ((if0 _ _).trans (feq (by decide : ¬ ((1 : Int32) = (0 : Int32)))).2) (by decide) (by decide) kq)
  show Win p e below _ T333 (mkF mt 9 #[.val (.ref b), .val (.int (124 : Int32)), .val (.int (0 : Int32)), .val (.int (4 : Int32))] [])
  refine Win.st ?_ (fun tq kq => XS.iloadN X333.here hx rfl (hb hby d_jdk_43_method_22_9) rfl kq)
  show Win p e below _ T333 (mkF mt 10 #[.val (.ref b), .val (.int (124 : Int32)), .val (.int (0 : Int32)), .val (.int (4 : Int32))] [(.int (0 : Int32))])
  refine Win.st ?_ (fun tq kq => XS.iconst X333.here hx rfl (hb hby d_jdk_43_method_22_10) kq)
  show Win p e below _ T333 (mkF mt 11 #[.val (.ref b), .val (.int (124 : Int32)), .val (.int (0 : Int32)), .val (.int (4 : Int32))] [(.int (0 : Int32)), (.int (0 : Int32))])
  obtain ⟨v334, _, ⟨T334, L334, k334, n334⟩, -, X334, ⟨Lc334, hQ334, l334, y334, z334⟩, st334⟩ := Jvm.LawKit.callS X333 hx (y := (⟨"java/lang/Math", "max", "(II)I"⟩ : MethodName)) hown (mvT hZ (hw _ (List.mem_of_getElem? (i := 67) rfl))) (mvT hZ (hw _ (List.mem_of_getElem? (i := 68) rfl))) (mvT hZ (hw _ (List.mem_of_getElem? (i := 69) rfl))) (mvT hZ (hw _ (List.mem_of_getElem? (i := 70) rfl))) (by decide) (backOf (W := 0) (rm_max l Z a0 hw [] (0 : Int32) (0 : Int32) h0 n0 Z0 ) hZ (hw _ (List.mem_of_getElem? (i := 70) rfl)) (hw _ (List.mem_of_getElem? (i := 69) rfl)) (by decide) (by decide)) (g := (mkF mt 11 #[.val (.ref b), .val (.int (124 : Int32)), .val (.int (0 : Int32)), .val (.int (4 : Int32))] [(.int (0 : Int32)), (.int (0 : Int32))])) rfl (by rw [hml]; rfl) (argsL := [(.int (0 : Int32)), (.int (0 : Int32))]) (rest := []) (lenOf pd_4 rfl) rfl (by show 2 * 0 + _ ≤ _; exact Nat.le_of_eq rfl) (hb hby d_jdk_43_method_22_11) (fun _ _ => ⟨rfl, e333, (by decide : 0 + 0 ≤ _), (by decide : 0 + 0 ≤ _)⟩)
  dsimp only [Pt.U, Pt.locs, Pt.cells, Pt.slots] at X334 l334 y334 z334 st334 hQ334
  subst y334 z334
  replace X334 : Stand p l e _ s mt args below meth cd T334 L334 0 0 := X334
  obtain ⟨h334, e334⟩ : ∃ z, T334.heap = z := ⟨_, rfl⟩
  rw [e334] at hQ334
  obtain ⟨rfl, Nq334, eh334⟩ := hQ334
  have N334 : Fr n0 L334 := by rw [l334]; exact Fr.app N333 Nq334
  rw [eh334] at e334
  rw [show own_max (0 : Int32) (0 : Int32) = (0 : Int32) from by decide] at st334
  refine Win.st ?_ st334
  show Win p e below _ T334 (mkF mt 14 #[.val (.ref b), .val (.int (124 : Int32)), .val (.int (0 : Int32)), .val (.int (4 : Int32))] [(.int (0 : Int32))])
  refine Win.st ?_ (fun tq kq => XS.istoreN X334.here hx rfl (hb hby d_jdk_43_method_22_14) rfl (l' := #[.val (.ref b), .val (.int (124 : Int32)), .val (.int (0 : Int32)), .val (.int (4 : Int32))]) rfl kq)
  show Win p e below _ T334 (mkF mt 15 #[.val (.ref b), .val (.int (124 : Int32)), .val (.int (0 : Int32)), .val (.int (4 : Int32))] [])
  refine Win.st ?_ (fun tq kq => XS.iloadN X334.here hx rfl (hb hby d_jdk_43_method_22_15) rfl kq)
  show Win p e below _ T334 (mkF mt 16 #[.val (.ref b), .val (.int (124 : Int32)), .val (.int (0 : Int32)), .val (.int (4 : Int32))] [(.int (4 : Int32))])
  refine Win.st ?_ (fun tq kq => XS.aloadN X334.here hx rfl (hb hby d_jdk_43_method_22_16) rfl rfl kq)
  show Win p e below _ T334 (mkF mt 17 #[.val (.ref b), .val (.int (124 : Int32)), .val (.int (0 : Int32)), .val (.int (4 : Int32))] [(.ref b), (.int (4 : Int32))])
  refine Win.st ?_ (own_alen (g := (mkF mt 17 #[.val (.ref b), .val (.int (124 : Int32)), .val (.int (0 : Int32)), .val (.int (4 : Int32))] [(.ref b), (.int (4 : Int32))])) X334 hx hZ e334 VB rfl rfl (hb hby d_jdk_43_method_22_17))
  show Win p e below _ T334 (mkF mt 18 #[.val (.ref b), .val (.int (124 : Int32)), .val (.int (0 : Int32)), .val (.int (4 : Int32))] [(.int (4 : Int32)), (.int (4 : Int32))])
  obtain ⟨v335, _, ⟨T335, L335, k335, n335⟩, -, X335, ⟨Lc335, hQ335, l335, y335, z335⟩, st335⟩ := Jvm.LawKit.callS X334 hx (y := (⟨"java/lang/Math", "min", "(II)I"⟩ : MethodName)) hown (mvT hZ (hw _ (List.mem_of_getElem? (i := 71) rfl))) (mvT hZ (hw _ (List.mem_of_getElem? (i := 72) rfl))) (mvT hZ (hw _ (List.mem_of_getElem? (i := 69) rfl))) (mvT hZ (hw _ (List.mem_of_getElem? (i := 73) rfl))) (by decide) (backOf (W := 0) (rm_min l Z a0 hw [] (4 : Int32) (4 : Int32) h0 n0 Z0 ) hZ (hw _ (List.mem_of_getElem? (i := 73) rfl)) (hw _ (List.mem_of_getElem? (i := 69) rfl)) (by decide) (by decide)) (g := (mkF mt 18 #[.val (.ref b), .val (.int (124 : Int32)), .val (.int (0 : Int32)), .val (.int (4 : Int32))] [(.int (4 : Int32)), (.int (4 : Int32))])) rfl (by rw [hml]; rfl) (argsL := [(.int (4 : Int32)), (.int (4 : Int32))]) (rest := []) (lenOf pd_4 rfl) rfl (by show 2 * 0 + _ ≤ _; exact Nat.le_of_eq rfl) (hb hby d_jdk_43_method_22_18) (fun _ _ => ⟨rfl, e334, (by decide : 0 + 0 ≤ _), (by decide : 0 + 0 ≤ _)⟩)
  dsimp only [Pt.U, Pt.locs, Pt.cells, Pt.slots] at X335 l335 y335 z335 st335 hQ335
  subst y335 z335
  replace X335 : Stand p l e _ s mt args below meth cd T335 L335 0 0 := X335
  obtain ⟨h335, e335⟩ : ∃ z, T335.heap = z := ⟨_, rfl⟩
  rw [e335] at hQ335
  obtain ⟨rfl, Nq335, eh335⟩ := hQ335
  have N335 : Fr n0 L335 := by rw [l335]; exact Fr.app N334 Nq335
  rw [eh335] at e335
  rw [show own_min (4 : Int32) (4 : Int32) = (4 : Int32) from by decide] at st335
  refine Win.st ?_ st335
  show Win p e below _ T335 (mkF mt 21 #[.val (.ref b), .val (.int (124 : Int32)), .val (.int (0 : Int32)), .val (.int (4 : Int32))] [(.int (4 : Int32))])
  refine Win.st ?_ (fun tq kq => XS.istoreN X335.here hx rfl (hb hby d_jdk_43_method_22_21) rfl (l' := #[.val (.ref b), .val (.int (124 : Int32)), .val (.int (0 : Int32)), .val (.int (4 : Int32))]) rfl kq)
  show Win p e below _ T335 (mkF mt 22 #[.val (.ref b), .val (.int (124 : Int32)), .val (.int (0 : Int32)), .val (.int (4 : Int32))] [])
  refine Win.st ?_ (fun tq kq => XS.iloadN X335.here hx rfl (hb hby d_jdk_43_method_22_22) rfl kq)
  show Win p e below _ T335 (mkF mt 23 #[.val (.ref b), .val (.int (124 : Int32)), .val (.int (0 : Int32)), .val (.int (4 : Int32))] [(.int (0 : Int32))])
  refine Win.st ?_ (fun tq kq => XS.iloadN X335.here hx rfl (hb hby d_jdk_43_method_22_23) rfl kq)
  show Win p e below _ T335 (mkF mt 24 #[.val (.ref b), .val (.int (124 : Int32)), .val (.int (0 : Int32)), .val (.int (4 : Int32))] [(.int (4 : Int32)), (.int (0 : Int32))])
  refine Win.st ?_ (fun tq kq => XS.icmpYes X335.here hx rfl (pc0 := 24) (pc' := 29) rfl (hb hby d_jdk_43_method_22_24) rfl (tlt (by decide : (0 : Int32) < (4 : Int32))).1 (by decide) (by decide) kq)
  show Win p e below _ T335 (mkF mt 29 #[.val (.ref b), .val (.int (124 : Int32)), .val (.int (0 : Int32)), .val (.int (4 : Int32))] [])
  refine Win.st ?_ (fun tq kq => XS.aloadN X335.here hx rfl (hb hby d_jdk_43_method_22_29) rfl rfl kq)
  show Win p e below _ T335 (mkF mt 30 #[.val (.ref b), .val (.int (124 : Int32)), .val (.int (0 : Int32)), .val (.int (4 : Int32))] [(.ref b)])
  refine Win.st ?_ (fun tq kq => XS.iloadN X335.here hx rfl (hb hby d_jdk_43_method_22_30) rfl kq)
  show Win p e below _ T335 (mkF mt 31 #[.val (.ref b), .val (.int (124 : Int32)), .val (.int (0 : Int32)), .val (.int (4 : Int32))] [(.int (124 : Int32)), (.ref b)])
  refine Win.st ?_ (fun tq kq => XS.iloadN X335.here hx rfl (hb hby d_jdk_43_method_22_31) rfl kq)
  show Win p e below _ T335 (mkF mt 32 #[.val (.ref b), .val (.int (124 : Int32)), .val (.int (0 : Int32)), .val (.int (4 : Int32))] [(.int (0 : Int32)), (.int (124 : Int32)), (.ref b)])
  refine Win.st ?_ (fun tq kq => XS.iloadN X335.here hx rfl (hb hby d_jdk_43_method_22_32) rfl kq)
  show Win p e below _ T335 (mkF mt 33 #[.val (.ref b), .val (.int (124 : Int32)), .val (.int (0 : Int32)), .val (.int (4 : Int32))] [(.int (4 : Int32)), (.int (0 : Int32)), (.int (124 : Int32)), (.ref b)])
  obtain ⟨v336, _, ⟨T336, L336, k336, n336⟩, -, X336, ⟨Lc336, hQ336, l336, y336, z336⟩, st336⟩ := Jvm.LawKit.callS X335 hx (y := (⟨"java/lang/StringLatin1", "indexOfChar", "([BIII)I"⟩ : MethodName)) hown (mvT hZ (hw _ (List.mem_of_getElem? (i := 84) rfl))) (mvT hZ (hw _ (List.mem_of_getElem? (i := 85) rfl))) (mvT hZ (hw _ (List.mem_of_getElem? (i := 62) rfl))) (mvT hZ (hw _ (List.mem_of_getElem? (i := 86) rfl))) (by decide) (backOf (W := 0) (rm_ioc_4 l Z a0 hw [] b kb x0 x1 x2 x3 h0 n0 Z0 VB hp0 hp1 hp2 hp3) hZ (hw _ (List.mem_of_getElem? (i := 86) rfl)) (hw _ (List.mem_of_getElem? (i := 62) rfl)) (by decide) (by decide)) (g := (mkF mt 33 #[.val (.ref b), .val (.int (124 : Int32)), .val (.int (0 : Int32)), .val (.int (4 : Int32))] [(.int (4 : Int32)), (.int (0 : Int32)), (.int (124 : Int32)), (.ref b)])) rfl (by rw [hml]; rfl) (argsL := [(.ref b), (.int (124 : Int32)), (.int (0 : Int32)), (.int (4 : Int32))]) (rest := []) (lenOf pd_7 rfl) rfl (by show 2 * 0 + _ ≤ _; exact Nat.le_of_eq rfl) (hb hby d_jdk_43_method_22_33) (fun _ _ => ⟨rfl, e335, (by decide : 0 + 0 ≤ _), (by decide : 0 + 0 ≤ _)⟩)
  dsimp only [Pt.U, Pt.locs, Pt.cells, Pt.slots] at X336 l336 y336 z336 st336 hQ336
  subst y336 z336
  replace X336 : Stand p l e _ s mt args below meth cd T336 L336 0 0 := X336
  obtain ⟨h336, e336⟩ : ∃ z, T336.heap = z := ⟨_, rfl⟩
  rw [e336] at hQ336
  obtain ⟨rr, rfl, Nq336, eh336, hr⟩ := hQ336
  have N336 : Fr n0 L336 := by rw [l336]; exact Fr.app N335 Nq336
  rw [eh336] at e336
  refine Win.st ?_ st336
  show Win p e below _ T336 (mkF mt 36 #[.val (.ref b), .val (.int (124 : Int32)), .val (.int (0 : Int32)), .val (.int (4 : Int32))] [(.int rr)])
  exact Win.ret X336 hx hlk e336 hrt rfl (Or.inl ⟨rfl, Or.inl rfl, _, rfl⟩) (hb hby d_jdk_43_method_22_36) (by decide) (by decide) ⟨_, rfl, N336, rfl, hr⟩
theorem ef_io2_4 (mt : MethodId) (a : Addr) : entryFrame mt #[(.ref a), (.int (124 : Int32)), (.int (0 : Int32))] 3 = mkF mt 0 #[.val (.ref a), .val (.int (124 : Int32)), .val (.int (0 : Int32))] [] := by first | (simp [entryFrame, mkF, argsToLocals, Value.category]; done) | rfl
def Q_io2_4 (Z : State) (a : Addr) (b : Addr) (kb : ClassId) (cs : Int32) (x0 : Int32) (x1 : Int32) (x2 : Int32) (x3 : Int32) (h0 : Heap) (n0 : Nat) (v : Option Value) (h : Heap) (L : List Loc) : Prop := ∃ r : Int32, v = some (.int r) ∧ Fr n0 L ∧ h = h0 ∧ (r < 0 ↔ (¬ (x0 = (124 : Int32)) ∧ ¬ (x1 = (124 : Int32)) ∧ ¬ (x2 = (124 : Int32)) ∧ ¬ (x3 = (124 : Int32))))
set_option maxRecDepth 65536 in
set_option maxHeartbeats 40000000 in
theorem rm_io2_4 (l : Launch) (Z : State) (a0 : Array Value) (hw : ∀ d ∈ tables_1, d.before a0 Z = true) (ws : List Jvm.Cond) (a : Addr) (b : Addr) (kb : ClassId) (cs : Int32) (x0 : Int32) (x1 : Int32) (x2 : Int32) (x3 : Int32) (h0 : Heap) (n0 : Nat) (Z0 : n0 ≤ h0.size) (E : Exa Z h0 a "java/lang/String") (Fv : Fld Z h0 a "java/lang/String" "value" "[B" (.ref b)) (Fc : Fld Z h0 a "java/lang/String" "coder" "B" (.int (0 : Int32))) (VB : Arv Z h0 b kb .byte (4 : Int32) [(.int (x0.toInt8.toInt32)), (.int (x1.toInt8.toInt32)), (.int (x2.toInt8.toInt32)), (.int (x3.toInt8.toInt32))] (.int (0 : Int32))) (S0 : Sta Z Z.heap "java/lang/String" "COMPACT_STRINGS" "Z" (.int cs)) (hcs : ¬ cs = (0 : Int32)) (O : Old Z n0 h0) (hp0 : own_B x0) (hp1 : own_B x1) (hp2 : own_B x2) (hp3 : own_B x3) :
    MetFree l (⟨"java/lang/String", "indexOf", "(II)I"⟩ : MethodName) (head1 (Jvm.Cond.code (⟨"java/lang/String", "indexOf", "(II)I"⟩ : MethodName) jdk_42_method_80_code 3 (some .int) :: ws) ({ frames := 2, cells := 0, slots := 0, locals := 32 } : Room)) (fun aa UU => aa = #[(.ref a), (.int (124 : Int32)), (.int (0 : Int32))] ∧ Z.Warmed39 UU.vm ∧ UU.heap = h0) (fun _ _ _ _ _ => True) (fun _ UU oo UU' => ∃ vv LL, oo = .returned vv ∧ Q_io2_4 Z a b kb cs x0 x1 x2 x3 h0 n0 vv UU'.heap LL ∧ FrameEnd UU oo UU' LL ({ frames := 2, cells := 0, slots := 0, locals := 32 } : Room).cells ({ frames := 2, cells := 0, slots := 0, locals := 32 } : Room).slots) := by
  refine MetFree.of_bodySF (plainFor_of_name pn_1) hisR ?_
  intro p e s mt args below meth cd s₁ Bd hml0 hP hK
  obtain ⟨hA, hZ, hh⟩ := hP
  have hx := Bd.exec
  have hby := Bd.bytes
  have hml : cd.maxLocals = 3 := hml0
  have hown : s.vm.findClass "java/lang/String" = some mt.cls := findClass_of_methodNamed Bd.named
  have hnm := (name_of_methodNamed Bd.named Bd.method).1
  have hlk : meth.locks = false := BodyLoose.notSynchronized Bd
  have hrt := Bd.returns
  have X0 : Stand p l e ({ frames := 2, cells := 0, slots := 0, locals := 32 } : Room) s mt args below meth cd s₁ [] 0 0 := Stand.of_body Bd
  have e0 : s₁.heap = h0 := by rw [← hh, Bd.state]; rfl
  have N0 := Fr.nil n0
  show Win p e below (Ends s (Q_io2_4 Z a b kb cs x0 x1 x2 x3 h0 n0) ({ frames := 2, cells := 0, slots := 0, locals := 32 } : Room).cells ({ frames := 2, cells := 0, slots := 0, locals := 32 } : Room).slots) s₁ (entryFrame mt args 3)
  rw [hA, ef_io2_4]
  refine Win.st ?_ (fun tq kq => XS.aloadN X0.here hx rfl (hb hby d_jdk_42_method_80_0) rfl rfl kq)
  show Win p e below _ s₁ (mkF mt 1 #[.val (.ref a), .val (.int (124 : Int32)), .val (.int (0 : Int32))] [(.ref a)])
  obtain ⟨cq337, kq337, q337a, q337b, q337c⟩ := isOf hZ e0 E
  obtain ⟨v337, _, ⟨T337, L337, k337, n337⟩, -, X337, ⟨Lc337, hQ337, l337, y337, z337⟩, st337⟩ := X0.virtualBack hx (y := (⟨"java/lang/String", "isLatin1", "()Z"⟩ : MethodName)) (z := (⟨"java/lang/String", "isLatin1", "()Z"⟩ : MethodName)) hown (mvT hZ (hw _ (List.mem_of_getElem? (i := 44) rfl))) (mvT hZ (hw _ (List.mem_of_getElem? (i := 45) rfl))) (notFace_of_selects (args := #[]) (mvT hZ (hw _ (List.mem_of_getElem? (i := 47) rfl)))) (mvT hZ (hw _ (List.mem_of_getElem? (i := 47) rfl))) (mvT hZ (hw _ (List.mem_of_getElem? (i := 46) rfl))) (by decide) (backOf (W := 0) (rm_islatin1 l Z a0 hw [] a cs h0 n0 Z0 Fc S0 hcs O) hZ (hw _ (List.mem_of_getElem? (i := 48) rfl)) (hw _ (List.mem_of_getElem? (i := 10) rfl)) (by decide) (by decide)) q337a q337c (g := (mkF mt 1 #[.val (.ref a), .val (.int (124 : Int32)), .val (.int (0 : Int32))] [(.ref a)])) rfl (by rw [hml]; rfl) (Steps.refl _) (argsL := []) (rest := []) (lenOf pd_5 rfl) rfl (by show 2 * 0 + _ ≤ _; exact Nat.le_of_eq rfl) (hb hby d_jdk_42_method_80_1) (fun _ _ => ⟨rfl, e0, (by decide : 0 + 0 ≤ _), (by decide : 0 + 0 ≤ _)⟩)
  dsimp only [Pt.U, Pt.locs, Pt.cells, Pt.slots] at X337 l337 y337 z337 st337 hQ337
  subst y337 z337
  replace X337 : Stand p l e _ s mt args below meth cd T337 L337 0 0 := X337
  obtain ⟨h337, e337⟩ : ∃ z, T337.heap = z := ⟨_, rfl⟩
  rw [e337] at hQ337
  obtain ⟨rfl, Nq337, eh337⟩ := hQ337
  have N337 : Fr n0 L337 := by rw [l337]; exact Fr.app N0 Nq337
  rw [eh337] at e337
  refine Win.tr ?_ st337
  show Win p e below _ T337 (mkF mt 4 #[.val (.ref a), .val (.int (124 : Int32)), .val (.int (0 : Int32))] [(.int (1 : Int32))])
  refine Win.st ?_ (fun tq kq => XS.ifNo X337.here hx rfl (hb hby d_jdk_42_method_80_4) rfl ((if0 _ _).trans (feq (by decide : ¬ ((1 : Int32) = (0 : Int32)))).1) kq)
  show Win p e below _ T337 (mkF mt 7 #[.val (.ref a), .val (.int (124 : Int32)), .val (.int (0 : Int32))] [])
  refine Win.st ?_ (fun tq kq => XS.aloadN X337.here hx rfl (hb hby d_jdk_42_method_80_7) rfl rfl kq)
  show Win p e below _ T337 (mkF mt 8 #[.val (.ref a), .val (.int (124 : Int32)), .val (.int (0 : Int32))] [(.ref a)])
  obtain ⟨T338, X338, e338, st338⟩ := getF X337 hx hZ hown (host := "") (Or.inl (hw _ (List.mem_of_getElem? (i := 28) rfl))) Via.refl e337 Fv (g := (mkF mt 8 #[.val (.ref a), .val (.int (124 : Int32)), .val (.int (0 : Int32))] [(.ref a)])) rfl rfl (hb hby d_jdk_42_method_80_8)
  refine Win.st ?_ st338
  show Win p e below _ T338 (mkF mt 11 #[.val (.ref a), .val (.int (124 : Int32)), .val (.int (0 : Int32))] [(.ref b)])
  refine Win.st ?_ (fun tq kq => XS.iloadN X338.here hx rfl (hb hby d_jdk_42_method_80_11) rfl kq)
  show Win p e below _ T338 (mkF mt 12 #[.val (.ref a), .val (.int (124 : Int32)), .val (.int (0 : Int32))] [(.int (124 : Int32)), (.ref b)])
  refine Win.st ?_ (fun tq kq => XS.iloadN X338.here hx rfl (hb hby d_jdk_42_method_80_12) rfl kq)
  show Win p e below _ T338 (mkF mt 13 #[.val (.ref a), .val (.int (124 : Int32)), .val (.int (0 : Int32))] [(.int (0 : Int32)), (.int (124 : Int32)), (.ref b)])
  refine Win.st ?_ (fun tq kq => XS.aloadN X338.here hx rfl (hb hby d_jdk_42_method_80_13) rfl rfl kq)
  show Win p e below _ T338 (mkF mt 14 #[.val (.ref a), .val (.int (124 : Int32)), .val (.int (0 : Int32))] [(.ref a), (.int (0 : Int32)), (.int (124 : Int32)), (.ref b)])
  obtain ⟨cq339, kq339, q339a, q339b, q339c⟩ := isOf hZ e338 E
  obtain ⟨v339, _, ⟨T339, L339, k339, n339⟩, -, X339, ⟨Lc339, hQ339, l339, y339, z339⟩, st339⟩ := X338.virtualBack hx (y := (⟨"java/lang/String", "length", "()I"⟩ : MethodName)) (z := (⟨"java/lang/String", "length", "()I"⟩ : MethodName)) hown (mvT hZ (hw _ (List.mem_of_getElem? (i := 50) rfl))) (mvT hZ (hw _ (List.mem_of_getElem? (i := 51) rfl))) (notFace_of_selects (args := #[]) (mvT hZ (hw _ (List.mem_of_getElem? (i := 53) rfl)))) (mvT hZ (hw _ (List.mem_of_getElem? (i := 53) rfl))) (mvT hZ (hw _ (List.mem_of_getElem? (i := 52) rfl))) (by decide) (backOf (W := 3) (rm_slen l Z a0 hw [] a b kb (4 : Int32) [(.int (x0.toInt8.toInt32)), (.int (x1.toInt8.toInt32)), (.int (x2.toInt8.toInt32)), (.int (x3.toInt8.toInt32))] cs h0 n0 Z0 E Fv Fc VB S0 hcs O) hZ (hw _ (List.mem_of_getElem? (i := 54) rfl)) (hw _ (List.mem_of_getElem? (i := 10) rfl)) (by decide) (by decide)) q339a q339c (g := (mkF mt 14 #[.val (.ref a), .val (.int (124 : Int32)), .val (.int (0 : Int32))] [(.ref a), (.int (0 : Int32)), (.int (124 : Int32)), (.ref b)])) rfl (by rw [hml]; rfl) (Steps.refl _) (argsL := []) (rest := [(.int (0 : Int32)), (.int (124 : Int32)), (.ref b)]) (lenOf pd_6 rfl) rfl (by show 2 * 0 + _ ≤ _; exact Nat.le_of_eq rfl) (hb hby d_jdk_42_method_80_14) (fun _ _ => ⟨rfl, e338, (by decide : 0 + 0 ≤ _), (by decide : 0 + 0 ≤ _)⟩)
  dsimp only [Pt.U, Pt.locs, Pt.cells, Pt.slots] at X339 l339 y339 z339 st339 hQ339
  subst y339 z339
  replace X339 : Stand p l e _ s mt args below meth cd T339 L339 0 0 := X339
  obtain ⟨h339, e339⟩ : ∃ z, T339.heap = z := ⟨_, rfl⟩
  rw [e339] at hQ339
  obtain ⟨rfl, Nq339, eh339⟩ := hQ339
  have N339 : Fr n0 L339 := by rw [l339]; exact Fr.app N337 Nq339
  rw [eh339] at e339
  refine Win.tr ?_ st339
  show Win p e below _ T339 (mkF mt 17 #[.val (.ref a), .val (.int (124 : Int32)), .val (.int (0 : Int32))] [(.int (4 : Int32)), (.int (0 : Int32)), (.int (124 : Int32)), (.ref b)])
  obtain ⟨v340, _, ⟨T340, L340, k340, n340⟩, -, X340, ⟨Lc340, hQ340, l340, y340, z340⟩, st340⟩ := Jvm.LawKit.callS X339 hx (y := (⟨"java/lang/StringLatin1", "indexOf", "([BIII)I"⟩ : MethodName)) hown (mvT hZ (hw _ (List.mem_of_getElem? (i := 60) rfl))) (mvT hZ (hw _ (List.mem_of_getElem? (i := 61) rfl))) (mvT hZ (hw _ (List.mem_of_getElem? (i := 62) rfl))) (mvT hZ (hw _ (List.mem_of_getElem? (i := 63) rfl))) (by decide) (backOf (W := 0) (rm_lio_4 l Z a0 hw [] b kb x0 x1 x2 x3 h0 n0 Z0 VB hp0 hp1 hp2 hp3) hZ (hw _ (List.mem_of_getElem? (i := 63) rfl)) (hw _ (List.mem_of_getElem? (i := 62) rfl)) (by decide) (by decide)) (g := (mkF mt 17 #[.val (.ref a), .val (.int (124 : Int32)), .val (.int (0 : Int32))] [(.int (4 : Int32)), (.int (0 : Int32)), (.int (124 : Int32)), (.ref b)])) rfl (by rw [hml]; rfl) (argsL := [(.ref b), (.int (124 : Int32)), (.int (0 : Int32)), (.int (4 : Int32))]) (rest := []) (lenOf pd_7 rfl) rfl (by show 2 * 0 + _ ≤ _; exact Nat.le_of_eq rfl) (hb hby d_jdk_42_method_80_17) (fun _ _ => ⟨rfl, e339, (by decide : 0 + 0 ≤ _), (by decide : 0 + 0 ≤ _)⟩)
  dsimp only [Pt.U, Pt.locs, Pt.cells, Pt.slots] at X340 l340 y340 z340 st340 hQ340
  subst y340 z340
  replace X340 : Stand p l e _ s mt args below meth cd T340 L340 0 0 := X340
  obtain ⟨h340, e340⟩ : ∃ z, T340.heap = z := ⟨_, rfl⟩
  rw [e340] at hQ340
  obtain ⟨rr, rfl, Nq340, eh340, hr⟩ := hQ340
  have N340 : Fr n0 L340 := by rw [l340]; exact Fr.app N339 Nq340
  rw [eh340] at e340
  refine Win.st ?_ st340
  show Win p e below _ T340 (mkF mt 20 #[.val (.ref a), .val (.int (124 : Int32)), .val (.int (0 : Int32))] [(.int rr)])
  refine Win.st ?_ (fun tq kq => XS.goto X340.here hx rfl (pc0 := 20) (pc' := 36) rfl (hb hby d_jdk_42_method_80_20) (by decide) (by decide) kq)
  show Win p e below _ T340 (mkF mt 36 #[.val (.ref a), .val (.int (124 : Int32)), .val (.int (0 : Int32))] [(.int rr)])
  exact Win.ret X340 hx hlk e340 hrt rfl (Or.inl ⟨rfl, Or.inl rfl, _, rfl⟩) (hb hby d_jdk_42_method_80_36) (by decide) (by decide) ⟨_, rfl, N340, rfl, hr⟩
theorem ef_io1_4 (mt : MethodId) (a : Addr) : entryFrame mt #[(.ref a), (.int (124 : Int32))] 2 = mkF mt 0 #[.val (.ref a), .val (.int (124 : Int32))] [] := by first | (simp [entryFrame, mkF, argsToLocals, Value.category]; done) | rfl
def Q_io1_4 (Z : State) (a : Addr) (b : Addr) (kb : ClassId) (cs : Int32) (x0 : Int32) (x1 : Int32) (x2 : Int32) (x3 : Int32) (h0 : Heap) (n0 : Nat) (v : Option Value) (h : Heap) (L : List Loc) : Prop := ∃ r : Int32, v = some (.int r) ∧ Fr n0 L ∧ h = h0 ∧ (r < 0 ↔ (¬ (x0 = (124 : Int32)) ∧ ¬ (x1 = (124 : Int32)) ∧ ¬ (x2 = (124 : Int32)) ∧ ¬ (x3 = (124 : Int32))))
set_option maxRecDepth 65536 in
set_option maxHeartbeats 40000000 in
theorem rm_io1_4 (l : Launch) (Z : State) (a0 : Array Value) (hw : ∀ d ∈ tables_1, d.before a0 Z = true) (ws : List Jvm.Cond) (a : Addr) (b : Addr) (kb : ClassId) (cs : Int32) (x0 : Int32) (x1 : Int32) (x2 : Int32) (x3 : Int32) (h0 : Heap) (n0 : Nat) (Z0 : n0 ≤ h0.size) (E : Exa Z h0 a "java/lang/String") (Fv : Fld Z h0 a "java/lang/String" "value" "[B" (.ref b)) (Fc : Fld Z h0 a "java/lang/String" "coder" "B" (.int (0 : Int32))) (VB : Arv Z h0 b kb .byte (4 : Int32) [(.int (x0.toInt8.toInt32)), (.int (x1.toInt8.toInt32)), (.int (x2.toInt8.toInt32)), (.int (x3.toInt8.toInt32))] (.int (0 : Int32))) (S0 : Sta Z Z.heap "java/lang/String" "COMPACT_STRINGS" "Z" (.int cs)) (hcs : ¬ cs = (0 : Int32)) (O : Old Z n0 h0) (hp0 : own_B x0) (hp1 : own_B x1) (hp2 : own_B x2) (hp3 : own_B x3) :
    MetFree l (⟨"java/lang/String", "indexOf", "(I)I"⟩ : MethodName) (head1 (Jvm.Cond.code (⟨"java/lang/String", "indexOf", "(I)I"⟩ : MethodName) jdk_42_method_79_code 2 (some .int) :: ws) ({ frames := 3, cells := 0, slots := 0, locals := 46 } : Room)) (fun aa UU => aa = #[(.ref a), (.int (124 : Int32))] ∧ Z.Warmed39 UU.vm ∧ UU.heap = h0) (fun _ _ _ _ _ => True) (fun _ UU oo UU' => ∃ vv LL, oo = .returned vv ∧ Q_io1_4 Z a b kb cs x0 x1 x2 x3 h0 n0 vv UU'.heap LL ∧ FrameEnd UU oo UU' LL ({ frames := 3, cells := 0, slots := 0, locals := 46 } : Room).cells ({ frames := 3, cells := 0, slots := 0, locals := 46 } : Room).slots) := by
  refine MetFree.of_bodySF (plainFor_of_name pn_1) hisR ?_
  intro p e s mt args below meth cd s₁ Bd hml0 hP hK
  obtain ⟨hA, hZ, hh⟩ := hP
  have hx := Bd.exec
  have hby := Bd.bytes
  have hml : cd.maxLocals = 2 := hml0
  have hown : s.vm.findClass "java/lang/String" = some mt.cls := findClass_of_methodNamed Bd.named
  have hnm := (name_of_methodNamed Bd.named Bd.method).1
  have hlk : meth.locks = false := BodyLoose.notSynchronized Bd
  have hrt := Bd.returns
  have X0 : Stand p l e ({ frames := 3, cells := 0, slots := 0, locals := 46 } : Room) s mt args below meth cd s₁ [] 0 0 := Stand.of_body Bd
  have e0 : s₁.heap = h0 := by rw [← hh, Bd.state]; rfl
  have N0 := Fr.nil n0
  show Win p e below (Ends s (Q_io1_4 Z a b kb cs x0 x1 x2 x3 h0 n0) ({ frames := 3, cells := 0, slots := 0, locals := 46 } : Room).cells ({ frames := 3, cells := 0, slots := 0, locals := 46 } : Room).slots) s₁ (entryFrame mt args 2)
  rw [hA, ef_io1_4]
  refine Win.st ?_ (fun tq kq => XS.aloadN X0.here hx rfl (hb hby d_jdk_42_method_79_0) rfl rfl kq)
  show Win p e below _ s₁ (mkF mt 1 #[.val (.ref a), .val (.int (124 : Int32))] [(.ref a)])
  refine Win.st ?_ (fun tq kq => XS.iloadN X0.here hx rfl (hb hby d_jdk_42_method_79_1) rfl kq)
  show Win p e below _ s₁ (mkF mt 2 #[.val (.ref a), .val (.int (124 : Int32))] [(.int (124 : Int32)), (.ref a)])
  refine Win.st ?_ (fun tq kq => XS.iconst X0.here hx rfl (hb hby d_jdk_42_method_79_2) kq)
  show Win p e below _ s₁ (mkF mt 3 #[.val (.ref a), .val (.int (124 : Int32))] [(.int (0 : Int32)), (.int (124 : Int32)), (.ref a)])
  obtain ⟨cq341, kq341, q341a, q341b, q341c⟩ := isOf hZ e0 E
  obtain ⟨v341, _, ⟨T341, L341, k341, n341⟩, -, X341, ⟨Lc341, hQ341, l341, y341, z341⟩, st341⟩ := X0.virtualBack hx (y := (⟨"java/lang/String", "indexOf", "(II)I"⟩ : MethodName)) (z := (⟨"java/lang/String", "indexOf", "(II)I"⟩ : MethodName)) hown (mvT hZ (hw _ (List.mem_of_getElem? (i := 39) rfl))) (mvT hZ (hw _ (List.mem_of_getElem? (i := 40) rfl))) (notFace_of_selects (args := #[]) (mvT hZ (hw _ (List.mem_of_getElem? (i := 42) rfl)))) (mvT hZ (hw _ (List.mem_of_getElem? (i := 42) rfl))) (mvT hZ (hw _ (List.mem_of_getElem? (i := 41) rfl))) (by decide) (backOf (W := 0) (rm_io2_4 l Z a0 hw [] a b kb cs x0 x1 x2 x3 h0 n0 Z0 E Fv Fc VB S0 hcs O hp0 hp1 hp2 hp3) hZ (hw _ (List.mem_of_getElem? (i := 43) rfl)) (hw _ (List.mem_of_getElem? (i := 10) rfl)) (by decide) (by decide)) q341a q341c (g := (mkF mt 3 #[.val (.ref a), .val (.int (124 : Int32))] [(.int (0 : Int32)), (.int (124 : Int32)), (.ref a)])) rfl (by rw [hml]; rfl) (Steps.refl _) (argsL := [(.int (124 : Int32)), (.int (0 : Int32))]) (rest := []) (lenOf pd_4 rfl) rfl (by show 2 * 0 + _ ≤ _; exact Nat.le_of_eq rfl) (hb hby d_jdk_42_method_79_3) (fun _ _ => ⟨rfl, e0, (by decide : 0 + 0 ≤ _), (by decide : 0 + 0 ≤ _)⟩)
  dsimp only [Pt.U, Pt.locs, Pt.cells, Pt.slots] at X341 l341 y341 z341 st341 hQ341
  subst y341 z341
  replace X341 : Stand p l e _ s mt args below meth cd T341 L341 0 0 := X341
  obtain ⟨h341, e341⟩ : ∃ z, T341.heap = z := ⟨_, rfl⟩
  rw [e341] at hQ341
  obtain ⟨rr, rfl, Nq341, eh341, hr⟩ := hQ341
  have N341 : Fr n0 L341 := by rw [l341]; exact Fr.app N0 Nq341
  rw [eh341] at e341
  refine Win.tr ?_ st341
  show Win p e below _ T341 (mkF mt 6 #[.val (.ref a), .val (.int (124 : Int32))] [(.int rr)])
  exact Win.ret X341 hx hlk e341 hrt rfl (Or.inl ⟨rfl, Or.inl rfl, _, rfl⟩) (hb hby d_jdk_42_method_79_6) (by decide) (by decide) ⟨_, rfl, N341, rfl, hr⟩
theorem ef_hsy_4 (mt : MethodId) (a : Addr) : entryFrame mt #[(.ref a)] 1 = mkF mt 0 #[.val (.ref a)] [] := by first | (simp [entryFrame, mkF, argsToLocals, Value.category]; done) | rfl
def Q_hsy_4 (Z : State) (a : Addr) (b : Addr) (kb : ClassId) (cs : Int32) (x0 : Int32) (x1 : Int32) (x2 : Int32) (x3 : Int32) (h0 : Heap) (n0 : Nat) (v : Option Value) (h : Heap) (L : List Loc) : Prop := ∃ r : Int32, v = some (.int r) ∧ Fr n0 L ∧ h = h0 ∧ ((¬ (x0 = (124 : Int32)) ∧ ¬ (x1 = (124 : Int32)) ∧ ¬ (x2 = (124 : Int32)) ∧ ¬ (x3 = (124 : Int32))) → r = 1) ∧ (¬ (¬ (x0 = (124 : Int32)) ∧ ¬ (x1 = (124 : Int32)) ∧ ¬ (x2 = (124 : Int32)) ∧ ¬ (x3 = (124 : Int32))) → r = 0)
set_option maxRecDepth 65536 in
set_option maxHeartbeats 40000000 in
theorem rm_hsy_4 (l : Launch) (Z : State) (a0 : Array Value) (hw : ∀ d ∈ tables_1, d.before a0 Z = true) (ws : List Jvm.Cond) (a : Addr) (b : Addr) (kb : ClassId) (cs : Int32) (x0 : Int32) (x1 : Int32) (x2 : Int32) (x3 : Int32) (h0 : Heap) (n0 : Nat) (Z0 : n0 ≤ h0.size) (E : Exa Z h0 a "java/lang/String") (Fv : Fld Z h0 a "java/lang/String" "value" "[B" (.ref b)) (Fc : Fld Z h0 a "java/lang/String" "coder" "B" (.int (0 : Int32))) (VB : Arv Z h0 b kb .byte (4 : Int32) [(.int (x0.toInt8.toInt32)), (.int (x1.toInt8.toInt32)), (.int (x2.toInt8.toInt32)), (.int (x3.toInt8.toInt32))] (.int (0 : Int32))) (S0 : Sta Z Z.heap "java/lang/String" "COMPACT_STRINGS" "Z" (.int cs)) (hcs : ¬ cs = (0 : Int32)) (O : Old Z n0 h0) (hp0 : own_B x0) (hp1 : own_B x1) (hp2 : own_B x2) (hp3 : own_B x3) :
    MetFree l (⟨"com/example/foldkey/foldkey/store/Token", "holdsSystem", "(Ljava/lang/String;)Z"⟩ : MethodName) (head1 (Jvm.Cond.code (⟨"com/example/foldkey/foldkey/store/Token", "holdsSystem", "(Ljava/lang/String;)Z"⟩ : MethodName) prog_39_method_3_code 1 (some .boolean) :: ws) ({ frames := 4, cells := 0, slots := 0, locals := 59 } : Room)) (fun aa UU => aa = #[(.ref a)] ∧ Z.Warmed39 UU.vm ∧ UU.heap = h0) (fun _ _ _ _ _ => True) (fun _ UU oo UU' => ∃ vv LL, oo = .returned vv ∧ Q_hsy_4 Z a b kb cs x0 x1 x2 x3 h0 n0 vv UU'.heap LL ∧ FrameEnd UU oo UU' LL ({ frames := 4, cells := 0, slots := 0, locals := 59 } : Room).cells ({ frames := 4, cells := 0, slots := 0, locals := 59 } : Room).slots) := by
  refine MetFree.of_bodySF (plainFor_of_name pn_3) hisR ?_
  intro p e s mt args below meth cd s₁ Bd hml0 hP hK
  obtain ⟨hA, hZ, hh⟩ := hP
  have hx := Bd.exec
  have hby := Bd.bytes
  have hml : cd.maxLocals = 1 := hml0
  have hown : s.vm.findClass "com/example/foldkey/foldkey/store/Token" = some mt.cls := findClass_of_methodNamed Bd.named
  have hnm := (name_of_methodNamed Bd.named Bd.method).1
  have hlk : meth.locks = false := BodyLoose.notSynchronized Bd
  have hrt := Bd.returns
  have X0 : Stand p l e ({ frames := 4, cells := 0, slots := 0, locals := 59 } : Room) s mt args below meth cd s₁ [] 0 0 := Stand.of_body Bd
  have e0 : s₁.heap = h0 := by rw [← hh, Bd.state]; rfl
  have N0 := Fr.nil n0
  show Win p e below (Ends s (Q_hsy_4 Z a b kb cs x0 x1 x2 x3 h0 n0) ({ frames := 4, cells := 0, slots := 0, locals := 59 } : Room).cells ({ frames := 4, cells := 0, slots := 0, locals := 59 } : Room).slots) s₁ (entryFrame mt args 1)
  rw [hA, ef_hsy_4]
  refine Win.st ?_ (fun tq kq => XS.aloadN X0.here hx rfl (hb hby d_prog_39_method_3_0) rfl rfl kq)
  show Win p e below _ s₁ (mkF mt 1 #[.val (.ref a)] [(.ref a)])
  refine Win.st ?_ (fun tq kq => XS.bipush X0.here hx rfl (hb hby d_prog_39_method_3_1) kq)
  show Win p e below _ s₁ (mkF mt 3 #[.val (.ref a)] [(.int (124 : Int32)), (.ref a)])
  obtain ⟨cq342, kq342, q342a, q342b, q342c⟩ := isOf hZ e0 E
  obtain ⟨v342, _, ⟨T342, L342, k342, n342⟩, -, X342, ⟨Lc342, hQ342, l342, y342, z342⟩, st342⟩ := X0.virtualBack hx (y := (⟨"java/lang/String", "indexOf", "(I)I"⟩ : MethodName)) (z := (⟨"java/lang/String", "indexOf", "(I)I"⟩ : MethodName)) hown (mvT hZ (hw _ (List.mem_of_getElem? (i := 34) rfl))) (mvT hZ (hw _ (List.mem_of_getElem? (i := 35) rfl))) (notFace_of_selects (args := #[]) (mvT hZ (hw _ (List.mem_of_getElem? (i := 37) rfl)))) (mvT hZ (hw _ (List.mem_of_getElem? (i := 37) rfl))) (mvT hZ (hw _ (List.mem_of_getElem? (i := 36) rfl))) (by decide) (backOf (W := 0) (rm_io1_4 l Z a0 hw [] a b kb cs x0 x1 x2 x3 h0 n0 Z0 E Fv Fc VB S0 hcs O hp0 hp1 hp2 hp3) hZ (hw _ (List.mem_of_getElem? (i := 38) rfl)) (hw _ (List.mem_of_getElem? (i := 10) rfl)) (by decide) (by decide)) q342a q342c (g := (mkF mt 3 #[.val (.ref a)] [(.int (124 : Int32)), (.ref a)])) rfl (by rw [hml]; rfl) (Steps.refl _) (argsL := [(.int (124 : Int32))]) (rest := []) (lenOf pd_8 rfl) rfl (by show 2 * 0 + _ ≤ _; exact Nat.le_of_eq rfl) (hb hby d_prog_39_method_3_3) (fun _ _ => ⟨rfl, e0, (by decide : 0 + 0 ≤ _), (by decide : 0 + 0 ≤ _)⟩)
  dsimp only [Pt.U, Pt.locs, Pt.cells, Pt.slots] at X342 l342 y342 z342 st342 hQ342
  subst y342 z342
  replace X342 : Stand p l e _ s mt args below meth cd T342 L342 0 0 := X342
  obtain ⟨h342, e342⟩ : ∃ z, T342.heap = z := ⟨_, rfl⟩
  rw [e342] at hQ342
  obtain ⟨rr, rfl, Nq342, eh342, hr⟩ := hQ342
  have N342 : Fr n0 L342 := by rw [l342]; exact Fr.app N0 Nq342
  rw [eh342] at e342
  refine Win.tr ?_ st342
  show Win p e below _ T342 (mkF mt 6 #[.val (.ref a)] [(.int rr)])
  by_cases hc6 : rr < (0 : Int32)
  · refine Win.st ?_ (fun tq kq => XS.ifNo X342.here hx rfl (hb hby d_prog_39_method_3_6) rfl ((if0 _ _).trans (tlt hc6).2.1) kq)
    show Win p e below _ T342 (mkF mt 9 #[.val (.ref a)] [])
    refine Win.st ?_ (fun tq kq => XS.iconst X342.here hx rfl (hb hby d_prog_39_method_3_9) kq)
    show Win p e below _ T342 (mkF mt 10 #[.val (.ref a)] [(.int (1 : Int32))])
    refine Win.st ?_ (fun tq kq => XS.goto X342.here hx rfl (pc0 := 10) (pc' := 14) rfl (hb hby d_prog_39_method_3_10) (by decide) (by decide) kq)
    show Win p e below _ T342 (mkF mt 14 #[.val (.ref a)] [(.int (1 : Int32))])
    exact Win.retN X342 hx hlk e342 (t := .boolean) (z' := (1 : Int32)) hrt (by simp) (hb hby d_prog_39_method_3_14) (by decide) (by decide) rfl ⟨_, rfl, N342, rfl, fun _ => rfl, fun q => absurd (hr.mp hc6) q⟩
  · refine Win.st ?_ (fun tq kq => XS.ifYes X342.here hx rfl (pc0 := 6) (pc' := 13) rfl (hb hby d_prog_39_method_3_6) rfl ((if0 _ _).trans (flt hc6).2.1) (by decide) (by decide) kq)
    show Win p e below _ T342 (mkF mt 13 #[.val (.ref a)] [])
    refine Win.st ?_ (fun tq kq => XS.iconst X342.here hx rfl (hb hby d_prog_39_method_3_13) kq)
    show Win p e below _ T342 (mkF mt 14 #[.val (.ref a)] [(.int (0 : Int32))])
    exact Win.retN X342 hx hlk e342 (t := .boolean) (z' := (0 : Int32)) hrt (by simp) (hb hby d_prog_39_method_3_14) (by decide) (by decide) rfl ⟨_, rfl, N342, rfl, fun q => absurd (hr.mpr q) hc6, fun _ => rfl⟩
theorem d_method_3_0 : decode method_3_code 0 = .ok (.iload_n 1, 1) := by decide +kernel
theorem d_method_3_1 : decode method_3_code 1 = .ok (.ifCond .eq 6, 3) := by decide +kernel
theorem d_method_3_7 : decode method_3_code 7 = .ok (.iload_n 0, 1) := by decide +kernel
theorem d_method_3_8 : decode method_3_code 8 = .ok (.sipush 255, 3) := by decide +kernel
theorem d_method_3_11 : decode method_3_code 11 = .ok (.iand, 1) := by decide +kernel
theorem d_method_3_12 : decode method_3_code 12 = .ok (.i2c, 1) := by decide +kernel
theorem d_method_3_13 : decode method_3_code 13 = .ok (.ireturn, 1) := by decide +kernel
theorem d_method_3_4 : decode method_3_code 4 = .ok (.bipush 124, 2) := by decide +kernel
theorem d_method_3_6 : decode method_3_code 6 = .ok (.ireturn, 1) := by decide +kernel
theorem ef_pick (mt : MethodId) (raw : Int32) (bar : Int32) : entryFrame mt #[(.int raw), (.int bar)] 2 = mkF mt 0 #[.val (.int raw), .val (.int bar)] [] := by first | (simp [entryFrame, mkF, argsToLocals, Value.category]; done) | rfl
def Q_pick (Z : State) (raw : Int32) (bar : Int32) (h0 : Heap) (n0 : Nat) (v : Option Value) (h : Heap) (L : List Loc) : Prop := v = some (.int (own_pickc raw bar)) ∧ Fr n0 L ∧ h = h0
set_option maxRecDepth 65536 in
set_option maxHeartbeats 40000000 in
theorem rm_pick (l : Launch) (Z : State) (a0 : Array Value) (hw : ∀ d ∈ tables_1, d.before a0 Z = true) (ws : List Jvm.Cond) (raw : Int32) (bar : Int32) (h0 : Heap) (n0 : Nat) (Z0 : n0 ≤ h0.size) :
    MetFree l (⟨"com/example/foldkey/foldkey/store/TokenHoldsSystemPinLaw", "pick", "(II)C"⟩ : MethodName) (head1 (Jvm.Cond.code (⟨"com/example/foldkey/foldkey/store/TokenHoldsSystemPinLaw", "pick", "(II)C"⟩ : MethodName) method_3_code 2 (some .char) :: ws) ({ frames := 0, cells := 0, slots := 0, locals := 0 } : Room)) (fun aa UU => aa = #[(.int raw), (.int bar)] ∧ Z.Warmed39 UU.vm ∧ UU.heap = h0) (fun _ _ _ _ _ => True) (fun _ UU oo UU' => ∃ vv LL, oo = .returned vv ∧ Q_pick Z raw bar h0 n0 vv UU'.heap LL ∧ FrameEnd UU oo UU' LL ({ frames := 0, cells := 0, slots := 0, locals := 0 } : Room).cells ({ frames := 0, cells := 0, slots := 0, locals := 0 } : Room).slots) := by
  refine MetFree.of_bodySF (plainFor_of_name pn_2) hisR ?_
  intro p e s mt args below meth cd s₁ Bd hml0 hP hK
  obtain ⟨hA, hZ, hh⟩ := hP
  have hx := Bd.exec
  have hby := Bd.bytes
  have hml : cd.maxLocals = 2 := hml0
  have hown : s.vm.findClass "com/example/foldkey/foldkey/store/TokenHoldsSystemPinLaw" = some mt.cls := findClass_of_methodNamed Bd.named
  have hnm := (name_of_methodNamed Bd.named Bd.method).1
  have hlk : meth.locks = false := BodyLoose.notSynchronized Bd
  have hrt := Bd.returns
  have X0 : Stand p l e ({ frames := 0, cells := 0, slots := 0, locals := 0 } : Room) s mt args below meth cd s₁ [] 0 0 := Stand.of_body Bd
  have e0 : s₁.heap = h0 := by rw [← hh, Bd.state]; rfl
  have N0 := Fr.nil n0
  show Win p e below (Ends s (Q_pick Z raw bar h0 n0) ({ frames := 0, cells := 0, slots := 0, locals := 0 } : Room).cells ({ frames := 0, cells := 0, slots := 0, locals := 0 } : Room).slots) s₁ (entryFrame mt args 2)
  rw [hA, ef_pick]
  refine Win.st ?_ (fun tq kq => XS.iloadN X0.here hx rfl (hb hby d_method_3_0) rfl kq)
  show Win p e below _ s₁ (mkF mt 1 #[.val (.int raw), .val (.int bar)] [(.int bar)])
  by_cases hc1 : bar = (0 : Int32)
  · refine Win.st ?_ (fun tq kq => XS.ifYes X0.here hx rfl (pc0 := 1) (pc' := 7) rfl (hb hby d_method_3_1) rfl ((if0 _ _).trans (teq hc1).1) (by decide) (by decide) kq)
    show Win p e below _ s₁ (mkF mt 7 #[.val (.int raw), .val (.int bar)] [])
    refine Win.st ?_ (fun tq kq => XS.iloadN X0.here hx rfl (hb hby d_method_3_7) rfl kq)
    show Win p e below _ s₁ (mkF mt 8 #[.val (.int raw), .val (.int bar)] [(.int raw)])
    refine Win.st ?_ (fun tq kq => XS.sipush X0.here hx rfl (hb hby d_method_3_8) kq)
    show Win p e below _ s₁ (mkF mt 11 #[.val (.int raw), .val (.int bar)] [(.int (255 : Int32)), (.int raw)])
    refine Win.st ?_ (fun tq kq => XS.iand X0.here hx rfl (hb hby d_method_3_11) rfl kq)
    show Win p e below _ s₁ (mkF mt 12 #[.val (.int raw), .val (.int bar)] [(.int (raw &&& (255 : Int32)))])
    refine Win.st ?_ (fun tq kq => XS.i2c X0.here hx rfl (hb hby d_method_3_12) rfl kq)
    show Win p e below _ s₁ (mkF mt 13 #[.val (.int raw), .val (.int bar)] [(.int ((raw &&& (255 : Int32)).toUInt32.toUInt16.toUInt32.toInt32))])
    exact Win.retN X0 hx hlk e0 (t := .char) (z' := (raw &&& (255 : Int32))) hrt (by simp) (hb hby d_method_3_13) (by decide) (by decide) (own_narc raw) ⟨by simp only [own_pickc, hc1, if_true, if_false], N0, rfl⟩
  · refine Win.st ?_ (fun tq kq => XS.ifNo X0.here hx rfl (hb hby d_method_3_1) rfl ((if0 _ _).trans (feq hc1).1) kq)
    show Win p e below _ s₁ (mkF mt 4 #[.val (.int raw), .val (.int bar)] [])
    refine Win.st ?_ (fun tq kq => XS.bipush X0.here hx rfl (hb hby d_method_3_4) kq)
    show Win p e below _ s₁ (mkF mt 6 #[.val (.int raw), .val (.int bar)] [(.int (124 : Int32))])
    exact Win.retN X0 hx hlk e0 (t := .char) (z' := (124 : Int32)) hrt (by simp) (hb hby d_method_3_6) (by decide) (by decide) rfl ⟨by simp only [own_pickc, hc1, if_true, if_false], N0, rfl⟩
theorem pd_12 : parseMethodDescriptor "(II)C" = some ⟨[.int, .int], some .char⟩ := by decide +kernel
theorem pd_13 : parseMethodDescriptor "(ICCCC)Ljava/lang/String;" = some ⟨[.int, .char, .char, .char, .char], some (.object "java/lang/String")⟩ := by decide +kernel
theorem pd_14 : parseMethodDescriptor "(Ljava/lang/String;)Z" = some ⟨[(.object "java/lang/String")], some .boolean⟩ := by decide +kernel
theorem ef_law (mt : MethodId) (len : Int32) (lo : Int32) (hi : Int32) (sel : Int32) : entryFrame mt #[(.int len), (.int lo), (.int hi), (.int sel)] maxLocals = mkF mt 0 #[.val (.int len), .val (.int lo), .val (.int hi), .val (.int sel), .unset, .unset, .unset, .unset, .unset, .unset, .unset] [] := by first | (simp [entryFrame, mkF, argsToLocals, Value.category, maxLocals]; done) | rfl
def Q_law (Z : State) (len : Int32) (lo : Int32) (hi : Int32) (sel : Int32) (cs : Int32) (h0 : Heap) (n0 : Nat) (v : Option Value) (h : Heap) (L : List Loc) : Prop := v = some (.int 1) ∧ Fr n0 L
set_option maxRecDepth 65536 in
set_option maxHeartbeats 40000000 in
theorem rm_law (l : Launch) (Z : State) (a0 : Array Value) (hw : ∀ d ∈ tables_1, d.before a0 Z = true) (ws : List Jvm.Cond) (len : Int32) (lo : Int32) (hi : Int32) (sel : Int32) (cs : Int32) (h0 : Heap) (n0 : Nat) (Z0 : n0 ≤ h0.size) (S0 : Sta Z Z.heap "java/lang/String" "COMPACT_STRINGS" "Z" (.int cs)) (hcs : ¬ cs = (0 : Int32)) (O : Old Z n0 h0) :
    MetFree l x (head1 (Jvm.Cond.code x code maxLocals ret :: ws) room_1) (fun aa UU => aa = #[(.int len), (.int lo), (.int hi), (.int sel)] ∧ Z.Warmed39 UU.vm ∧ UU.heap = h0 ∧ CHv Z own_EL UU.vm h0) (fun _ _ _ _ _ => True) (fun _ UU oo UU' => ∃ vv LL, oo = .returned vv ∧ Q_law Z len lo hi sel cs h0 n0 vv UU'.heap LL ∧ ReturnedEndW UU oo UU' LL 4 12) := by
  refine MetFree.of_bodySF (plainFor_of_name pn_2) hisR ?_
  intro p e s mt args below meth cd s₁ Bd hml0 hP hK
  obtain ⟨hA, hZ, hh, hC⟩ := hP
  have hx := Bd.exec
  have hby := Bd.bytes
  have hml : cd.maxLocals = 11 := hml0
  have hown : s.vm.findClass "com/example/foldkey/foldkey/store/TokenHoldsSystemPinLaw" = some mt.cls := findClass_of_methodNamed Bd.named
  have hnm := (name_of_methodNamed Bd.named Bd.method).1
  have hlk : meth.locks = false := BodyLoose.notSynchronized Bd
  have hrt := Bd.returns
  have X0 : Stand p l e room_1 s mt args below meth cd s₁ [] 0 0 := Stand.of_body Bd
  have e0 : s₁.heap = h0 := by rw [← hh, Bd.state]; rfl
  have N0 := Fr.nil n0
  show Win p e below (EndsW s (Q_law Z len lo hi sel cs h0 n0) 4 12) s₁ (entryFrame mt args maxLocals)
  rw [hA, ef_law]
  refine Win.st ?_ (fun tq kq => XS.iloadN X0.here hx rfl (hb hby at_0) rfl kq)
  show Win p e below _ s₁ (mkF mt 1 #[.val (.int len), .val (.int lo), .val (.int hi), .val (.int sel), .unset, .unset, .unset, .unset, .unset, .unset, .unset] [(.int len)])
  refine Win.st ?_ (X0.ldcInt hx hown (mvT hZ (hw _ (List.mem_of_getElem? (i := 0) rfl))) (g := (mkF mt 1 #[.val (.int len), .val (.int lo), .val (.int hi), .val (.int sel), .unset, .unset, .unset, .unset, .unset, .unset, .unset] [(.int len)])) rfl (hb hby at_1))
  show Win p e below _ s₁ (mkF mt 3 #[.val (.int len), .val (.int lo), .val (.int hi), .val (.int sel), .unset, .unset, .unset, .unset, .unset, .unset, .unset] [(.int (2147483647 : Int32)), (.int len)])
  refine Win.st ?_ (fun tq kq => XS.iand X0.here hx rfl (hb hby at_3) rfl kq)
  show Win p e below _ s₁ (mkF mt 4 #[.val (.int len), .val (.int lo), .val (.int hi), .val (.int sel), .unset, .unset, .unset, .unset, .unset, .unset, .unset] [(.int (len &&& (2147483647 : Int32)))])
  refine Win.st ?_ (fun tq kq => XS.iconst X0.here hx rfl (hb hby at_4) kq)
  show Win p e below _ s₁ (mkF mt 5 #[.val (.int len), .val (.int lo), .val (.int hi), .val (.int sel), .unset, .unset, .unset, .unset, .unset, .unset, .unset] [(.int (5 : Int32)), (.int (len &&& (2147483647 : Int32)))])
  refine Win.st ?_ (fun tq kq => iremM X0 hx rfl (hb hby at_5) rfl (by decide) kq)
  show Win p e below _ s₁ (mkF mt 6 #[.val (.int len), .val (.int lo), .val (.int hi), .val (.int sel), .unset, .unset, .unset, .unset, .unset, .unset, .unset] [(.int ((len &&& (2147483647 : Int32)) % (5 : Int32)))])
  obtain ⟨nn, hq⟩ : ∃ z, z = ((len &&& (2147483647 : Int32)) % (5 : Int32)) := ⟨_, rfl⟩
  have hn : nn = 0 ∨ nn = 1 ∨ nn = 2 ∨ nn = 3 ∨ nn = 4 := by rw [hq]; exact own_five _
  rw [← hq]
  show Win p e below _ s₁ (mkF mt 6 #[.val (.int len), .val (.int lo), .val (.int hi), .val (.int sel), .unset, .unset, .unset, .unset, .unset, .unset, .unset] [(.int nn)])
  refine Win.st ?_ (fun tq kq => XS.istore X0.here hx rfl (hb hby at_6) rfl (l' := #[.val (.int len), .val (.int lo), .val (.int hi), .val (.int sel), .val (.int nn), .unset, .unset, .unset, .unset, .unset, .unset]) rfl kq)
  show Win p e below _ s₁ (mkF mt 8 #[.val (.int len), .val (.int lo), .val (.int hi), .val (.int sel), .val (.int nn), .unset, .unset, .unset, .unset, .unset, .unset] [])
  refine Win.st ?_ (fun tq kq => XS.iloadN X0.here hx rfl (hb hby at_8) rfl kq)
  show Win p e below _ s₁ (mkF mt 9 #[.val (.int len), .val (.int lo), .val (.int hi), .val (.int sel), .val (.int nn), .unset, .unset, .unset, .unset, .unset, .unset] [(.int lo)])
  refine Win.st ?_ (fun tq kq => XS.iloadN X0.here hx rfl (hb hby at_9) rfl kq)
  show Win p e below _ s₁ (mkF mt 10 #[.val (.int len), .val (.int lo), .val (.int hi), .val (.int sel), .val (.int nn), .unset, .unset, .unset, .unset, .unset, .unset] [(.int sel), (.int lo)])
  refine Win.st ?_ (fun tq kq => XS.iconst X0.here hx rfl (hb hby at_10) kq)
  show Win p e below _ s₁ (mkF mt 11 #[.val (.int len), .val (.int lo), .val (.int hi), .val (.int sel), .val (.int nn), .unset, .unset, .unset, .unset, .unset, .unset] [(.int (1 : Int32)), (.int sel), (.int lo)])
  refine Win.st ?_ (fun tq kq => XS.iand X0.here hx rfl (hb hby at_11) rfl kq)
  show Win p e below _ s₁ (mkF mt 12 #[.val (.int len), .val (.int lo), .val (.int hi), .val (.int sel), .val (.int nn), .unset, .unset, .unset, .unset, .unset, .unset] [(.int (sel &&& (1 : Int32))), (.int lo)])
  obtain ⟨v343, _, ⟨T343, L343, k343, n343⟩, -, X343, ⟨Lc343, hQ343, l343, y343, z343⟩, st343⟩ := Jvm.LawKit.callS X0 hx (y := (⟨"com/example/foldkey/foldkey/store/TokenHoldsSystemPinLaw", "pick", "(II)C"⟩ : MethodName)) hown (mvT hZ (hw _ (List.mem_of_getElem? (i := 1) rfl))) (mvT hZ (hw _ (List.mem_of_getElem? (i := 2) rfl))) (mvT hZ (hw _ (List.mem_of_getElem? (i := 3) rfl))) (mvT hZ (hw _ (List.mem_of_getElem? (i := 4) rfl))) (by decide) (backOf (W := 0) (rm_pick l Z a0 hw [] lo (sel &&& (1 : Int32)) h0 n0 Z0 ) hZ (hw _ (List.mem_of_getElem? (i := 4) rfl)) (hw _ (List.mem_of_getElem? (i := 3) rfl)) (by decide) (by decide)) (g := (mkF mt 12 #[.val (.int len), .val (.int lo), .val (.int hi), .val (.int sel), .val (.int nn), .unset, .unset, .unset, .unset, .unset, .unset] [(.int (sel &&& (1 : Int32))), (.int lo)])) rfl (by rw [hml]; rfl) (argsL := [(.int lo), (.int (sel &&& (1 : Int32)))]) (rest := []) (lenOf pd_12 rfl) rfl (by show 2 * 0 + _ ≤ _; exact Nat.le_of_eq rfl) (hb hby at_12) (fun _ _ => ⟨rfl, e0, (by decide : 0 + 0 ≤ _), (by decide : 0 + 0 ≤ _)⟩)
  dsimp only [Pt.U, Pt.locs, Pt.cells, Pt.slots] at X343 l343 y343 z343 st343 hQ343
  subst y343 z343
  replace X343 : Stand p l e _ s mt args below meth cd T343 L343 0 0 := X343
  obtain ⟨h343, e343⟩ : ∃ z, T343.heap = z := ⟨_, rfl⟩
  rw [e343] at hQ343
  obtain ⟨rfl, Nq343, eh343⟩ := hQ343
  have N343 : Fr n0 L343 := by rw [l343]; exact Fr.app N0 Nq343
  rw [eh343] at e343
  refine Win.st ?_ st343
  show Win p e below _ T343 (mkF mt 15 #[.val (.int len), .val (.int lo), .val (.int hi), .val (.int sel), .val (.int nn), .unset, .unset, .unset, .unset, .unset, .unset] [(.int (own_pickc lo (sel &&& (1 : Int32))))])
  obtain ⟨c0, hq0⟩ : ∃ z, z = (own_pickc lo (sel &&& (1 : Int32))) := ⟨_, rfl⟩
  have hB0 : own_B c0 := by rw [hq0]; exact own_pickcB _ _
  rw [← hq0]
  show Win p e below _ T343 (mkF mt 15 #[.val (.int len), .val (.int lo), .val (.int hi), .val (.int sel), .val (.int nn), .unset, .unset, .unset, .unset, .unset, .unset] [(.int c0)])
  refine Win.st ?_ (fun tq kq => XS.istore X343.here hx rfl (hb hby at_15) rfl (l' := #[.val (.int len), .val (.int lo), .val (.int hi), .val (.int sel), .val (.int nn), .val (.int c0), .unset, .unset, .unset, .unset, .unset]) rfl kq)
  show Win p e below _ T343 (mkF mt 17 #[.val (.int len), .val (.int lo), .val (.int hi), .val (.int sel), .val (.int nn), .val (.int c0), .unset, .unset, .unset, .unset, .unset] [])
  refine Win.st ?_ (fun tq kq => XS.iloadN X343.here hx rfl (hb hby at_17) rfl kq)
  show Win p e below _ T343 (mkF mt 18 #[.val (.int len), .val (.int lo), .val (.int hi), .val (.int sel), .val (.int nn), .val (.int c0), .unset, .unset, .unset, .unset, .unset] [(.int lo)])
  refine Win.st ?_ (fun tq kq => XS.bipush X343.here hx rfl (hb hby at_18) kq)
  show Win p e below _ T343 (mkF mt 20 #[.val (.int len), .val (.int lo), .val (.int hi), .val (.int sel), .val (.int nn), .val (.int c0), .unset, .unset, .unset, .unset, .unset] [(.int (8 : Int32)), (.int lo)])
  refine Win.st ?_ (fun tq kq => XS.iushr X343.here hx rfl (hb hby at_20) rfl kq)
  show Win p e below _ T343 (mkF mt 21 #[.val (.int len), .val (.int lo), .val (.int hi), .val (.int sel), .val (.int nn), .val (.int c0), .unset, .unset, .unset, .unset, .unset] [(.int ((lo.toUInt32 >>> ((8 : Int32) &&& 31).toUInt32).toInt32))])
  refine Win.st ?_ (fun tq kq => XS.iloadN X343.here hx rfl (hb hby at_21) rfl kq)
  show Win p e below _ T343 (mkF mt 22 #[.val (.int len), .val (.int lo), .val (.int hi), .val (.int sel), .val (.int nn), .val (.int c0), .unset, .unset, .unset, .unset, .unset] [(.int sel), (.int ((lo.toUInt32 >>> ((8 : Int32) &&& 31).toUInt32).toInt32))])
  refine Win.st ?_ (fun tq kq => XS.iconst X343.here hx rfl (hb hby at_22) kq)
  show Win p e below _ T343 (mkF mt 23 #[.val (.int len), .val (.int lo), .val (.int hi), .val (.int sel), .val (.int nn), .val (.int c0), .unset, .unset, .unset, .unset, .unset] [(.int (2 : Int32)), (.int sel), (.int ((lo.toUInt32 >>> ((8 : Int32) &&& 31).toUInt32).toInt32))])
  refine Win.st ?_ (fun tq kq => XS.iand X343.here hx rfl (hb hby at_23) rfl kq)
  show Win p e below _ T343 (mkF mt 24 #[.val (.int len), .val (.int lo), .val (.int hi), .val (.int sel), .val (.int nn), .val (.int c0), .unset, .unset, .unset, .unset, .unset] [(.int (sel &&& (2 : Int32))), (.int ((lo.toUInt32 >>> ((8 : Int32) &&& 31).toUInt32).toInt32))])
  obtain ⟨v344, _, ⟨T344, L344, k344, n344⟩, -, X344, ⟨Lc344, hQ344, l344, y344, z344⟩, st344⟩ := Jvm.LawKit.callS X343 hx (y := (⟨"com/example/foldkey/foldkey/store/TokenHoldsSystemPinLaw", "pick", "(II)C"⟩ : MethodName)) hown (mvT hZ (hw _ (List.mem_of_getElem? (i := 1) rfl))) (mvT hZ (hw _ (List.mem_of_getElem? (i := 2) rfl))) (mvT hZ (hw _ (List.mem_of_getElem? (i := 3) rfl))) (mvT hZ (hw _ (List.mem_of_getElem? (i := 4) rfl))) (by decide) (backOf (W := 0) (rm_pick l Z a0 hw [] ((lo.toUInt32 >>> ((8 : Int32) &&& 31).toUInt32).toInt32) (sel &&& (2 : Int32)) h0 n0 Z0 ) hZ (hw _ (List.mem_of_getElem? (i := 4) rfl)) (hw _ (List.mem_of_getElem? (i := 3) rfl)) (by decide) (by decide)) (g := (mkF mt 24 #[.val (.int len), .val (.int lo), .val (.int hi), .val (.int sel), .val (.int nn), .val (.int c0), .unset, .unset, .unset, .unset, .unset] [(.int (sel &&& (2 : Int32))), (.int ((lo.toUInt32 >>> ((8 : Int32) &&& 31).toUInt32).toInt32))])) rfl (by rw [hml]; rfl) (argsL := [(.int ((lo.toUInt32 >>> ((8 : Int32) &&& 31).toUInt32).toInt32)), (.int (sel &&& (2 : Int32)))]) (rest := []) (lenOf pd_12 rfl) rfl (by show 2 * 0 + _ ≤ _; exact Nat.le_of_eq rfl) (hb hby at_24) (fun _ _ => ⟨rfl, e343, (by decide : 0 + 0 ≤ _), (by decide : 0 + 0 ≤ _)⟩)
  dsimp only [Pt.U, Pt.locs, Pt.cells, Pt.slots] at X344 l344 y344 z344 st344 hQ344
  subst y344 z344
  replace X344 : Stand p l e _ s mt args below meth cd T344 L344 0 0 := X344
  obtain ⟨h344, e344⟩ : ∃ z, T344.heap = z := ⟨_, rfl⟩
  rw [e344] at hQ344
  obtain ⟨rfl, Nq344, eh344⟩ := hQ344
  have N344 : Fr n0 L344 := by rw [l344]; exact Fr.app N343 Nq344
  rw [eh344] at e344
  refine Win.st ?_ st344
  show Win p e below _ T344 (mkF mt 27 #[.val (.int len), .val (.int lo), .val (.int hi), .val (.int sel), .val (.int nn), .val (.int c0), .unset, .unset, .unset, .unset, .unset] [(.int (own_pickc ((lo.toUInt32 >>> ((8 : Int32) &&& 31).toUInt32).toInt32) (sel &&& (2 : Int32))))])
  obtain ⟨c1, hq1⟩ : ∃ z, z = (own_pickc ((lo.toUInt32 >>> ((8 : Int32) &&& 31).toUInt32).toInt32) (sel &&& (2 : Int32))) := ⟨_, rfl⟩
  have hB1 : own_B c1 := by rw [hq1]; exact own_pickcB _ _
  rw [← hq1]
  show Win p e below _ T344 (mkF mt 27 #[.val (.int len), .val (.int lo), .val (.int hi), .val (.int sel), .val (.int nn), .val (.int c0), .unset, .unset, .unset, .unset, .unset] [(.int c1)])
  refine Win.st ?_ (fun tq kq => XS.istore X344.here hx rfl (hb hby at_27) rfl (l' := #[.val (.int len), .val (.int lo), .val (.int hi), .val (.int sel), .val (.int nn), .val (.int c0), .val (.int c1), .unset, .unset, .unset, .unset]) rfl kq)
  show Win p e below _ T344 (mkF mt 29 #[.val (.int len), .val (.int lo), .val (.int hi), .val (.int sel), .val (.int nn), .val (.int c0), .val (.int c1), .unset, .unset, .unset, .unset] [])
  refine Win.st ?_ (fun tq kq => XS.iloadN X344.here hx rfl (hb hby at_29) rfl kq)
  show Win p e below _ T344 (mkF mt 30 #[.val (.int len), .val (.int lo), .val (.int hi), .val (.int sel), .val (.int nn), .val (.int c0), .val (.int c1), .unset, .unset, .unset, .unset] [(.int hi)])
  refine Win.st ?_ (fun tq kq => XS.iloadN X344.here hx rfl (hb hby at_30) rfl kq)
  show Win p e below _ T344 (mkF mt 31 #[.val (.int len), .val (.int lo), .val (.int hi), .val (.int sel), .val (.int nn), .val (.int c0), .val (.int c1), .unset, .unset, .unset, .unset] [(.int sel), (.int hi)])
  refine Win.st ?_ (fun tq kq => XS.iconst X344.here hx rfl (hb hby at_31) kq)
  show Win p e below _ T344 (mkF mt 32 #[.val (.int len), .val (.int lo), .val (.int hi), .val (.int sel), .val (.int nn), .val (.int c0), .val (.int c1), .unset, .unset, .unset, .unset] [(.int (4 : Int32)), (.int sel), (.int hi)])
  refine Win.st ?_ (fun tq kq => XS.iand X344.here hx rfl (hb hby at_32) rfl kq)
  show Win p e below _ T344 (mkF mt 33 #[.val (.int len), .val (.int lo), .val (.int hi), .val (.int sel), .val (.int nn), .val (.int c0), .val (.int c1), .unset, .unset, .unset, .unset] [(.int (sel &&& (4 : Int32))), (.int hi)])
  obtain ⟨v345, _, ⟨T345, L345, k345, n345⟩, -, X345, ⟨Lc345, hQ345, l345, y345, z345⟩, st345⟩ := Jvm.LawKit.callS X344 hx (y := (⟨"com/example/foldkey/foldkey/store/TokenHoldsSystemPinLaw", "pick", "(II)C"⟩ : MethodName)) hown (mvT hZ (hw _ (List.mem_of_getElem? (i := 1) rfl))) (mvT hZ (hw _ (List.mem_of_getElem? (i := 2) rfl))) (mvT hZ (hw _ (List.mem_of_getElem? (i := 3) rfl))) (mvT hZ (hw _ (List.mem_of_getElem? (i := 4) rfl))) (by decide) (backOf (W := 0) (rm_pick l Z a0 hw [] hi (sel &&& (4 : Int32)) h0 n0 Z0 ) hZ (hw _ (List.mem_of_getElem? (i := 4) rfl)) (hw _ (List.mem_of_getElem? (i := 3) rfl)) (by decide) (by decide)) (g := (mkF mt 33 #[.val (.int len), .val (.int lo), .val (.int hi), .val (.int sel), .val (.int nn), .val (.int c0), .val (.int c1), .unset, .unset, .unset, .unset] [(.int (sel &&& (4 : Int32))), (.int hi)])) rfl (by rw [hml]; rfl) (argsL := [(.int hi), (.int (sel &&& (4 : Int32)))]) (rest := []) (lenOf pd_12 rfl) rfl (by show 2 * 0 + _ ≤ _; exact Nat.le_of_eq rfl) (hb hby at_33) (fun _ _ => ⟨rfl, e344, (by decide : 0 + 0 ≤ _), (by decide : 0 + 0 ≤ _)⟩)
  dsimp only [Pt.U, Pt.locs, Pt.cells, Pt.slots] at X345 l345 y345 z345 st345 hQ345
  subst y345 z345
  replace X345 : Stand p l e _ s mt args below meth cd T345 L345 0 0 := X345
  obtain ⟨h345, e345⟩ : ∃ z, T345.heap = z := ⟨_, rfl⟩
  rw [e345] at hQ345
  obtain ⟨rfl, Nq345, eh345⟩ := hQ345
  have N345 : Fr n0 L345 := by rw [l345]; exact Fr.app N344 Nq345
  rw [eh345] at e345
  refine Win.st ?_ st345
  show Win p e below _ T345 (mkF mt 36 #[.val (.int len), .val (.int lo), .val (.int hi), .val (.int sel), .val (.int nn), .val (.int c0), .val (.int c1), .unset, .unset, .unset, .unset] [(.int (own_pickc hi (sel &&& (4 : Int32))))])
  obtain ⟨c2, hq2⟩ : ∃ z, z = (own_pickc hi (sel &&& (4 : Int32))) := ⟨_, rfl⟩
  have hB2 : own_B c2 := by rw [hq2]; exact own_pickcB _ _
  rw [← hq2]
  show Win p e below _ T345 (mkF mt 36 #[.val (.int len), .val (.int lo), .val (.int hi), .val (.int sel), .val (.int nn), .val (.int c0), .val (.int c1), .unset, .unset, .unset, .unset] [(.int c2)])
  refine Win.st ?_ (fun tq kq => XS.istore X345.here hx rfl (hb hby at_36) rfl (l' := #[.val (.int len), .val (.int lo), .val (.int hi), .val (.int sel), .val (.int nn), .val (.int c0), .val (.int c1), .val (.int c2), .unset, .unset, .unset]) rfl kq)
  show Win p e below _ T345 (mkF mt 38 #[.val (.int len), .val (.int lo), .val (.int hi), .val (.int sel), .val (.int nn), .val (.int c0), .val (.int c1), .val (.int c2), .unset, .unset, .unset] [])
  refine Win.st ?_ (fun tq kq => XS.iloadN X345.here hx rfl (hb hby at_38) rfl kq)
  show Win p e below _ T345 (mkF mt 39 #[.val (.int len), .val (.int lo), .val (.int hi), .val (.int sel), .val (.int nn), .val (.int c0), .val (.int c1), .val (.int c2), .unset, .unset, .unset] [(.int hi)])
  refine Win.st ?_ (fun tq kq => XS.bipush X345.here hx rfl (hb hby at_39) kq)
  show Win p e below _ T345 (mkF mt 41 #[.val (.int len), .val (.int lo), .val (.int hi), .val (.int sel), .val (.int nn), .val (.int c0), .val (.int c1), .val (.int c2), .unset, .unset, .unset] [(.int (8 : Int32)), (.int hi)])
  refine Win.st ?_ (fun tq kq => XS.iushr X345.here hx rfl (hb hby at_41) rfl kq)
  show Win p e below _ T345 (mkF mt 42 #[.val (.int len), .val (.int lo), .val (.int hi), .val (.int sel), .val (.int nn), .val (.int c0), .val (.int c1), .val (.int c2), .unset, .unset, .unset] [(.int ((hi.toUInt32 >>> ((8 : Int32) &&& 31).toUInt32).toInt32))])
  refine Win.st ?_ (fun tq kq => XS.iloadN X345.here hx rfl (hb hby at_42) rfl kq)
  show Win p e below _ T345 (mkF mt 43 #[.val (.int len), .val (.int lo), .val (.int hi), .val (.int sel), .val (.int nn), .val (.int c0), .val (.int c1), .val (.int c2), .unset, .unset, .unset] [(.int sel), (.int ((hi.toUInt32 >>> ((8 : Int32) &&& 31).toUInt32).toInt32))])
  refine Win.st ?_ (fun tq kq => XS.bipush X345.here hx rfl (hb hby at_43) kq)
  show Win p e below _ T345 (mkF mt 45 #[.val (.int len), .val (.int lo), .val (.int hi), .val (.int sel), .val (.int nn), .val (.int c0), .val (.int c1), .val (.int c2), .unset, .unset, .unset] [(.int (8 : Int32)), (.int sel), (.int ((hi.toUInt32 >>> ((8 : Int32) &&& 31).toUInt32).toInt32))])
  refine Win.st ?_ (fun tq kq => XS.iand X345.here hx rfl (hb hby at_45) rfl kq)
  show Win p e below _ T345 (mkF mt 46 #[.val (.int len), .val (.int lo), .val (.int hi), .val (.int sel), .val (.int nn), .val (.int c0), .val (.int c1), .val (.int c2), .unset, .unset, .unset] [(.int (sel &&& (8 : Int32))), (.int ((hi.toUInt32 >>> ((8 : Int32) &&& 31).toUInt32).toInt32))])
  obtain ⟨v346, _, ⟨T346, L346, k346, n346⟩, -, X346, ⟨Lc346, hQ346, l346, y346, z346⟩, st346⟩ := Jvm.LawKit.callS X345 hx (y := (⟨"com/example/foldkey/foldkey/store/TokenHoldsSystemPinLaw", "pick", "(II)C"⟩ : MethodName)) hown (mvT hZ (hw _ (List.mem_of_getElem? (i := 1) rfl))) (mvT hZ (hw _ (List.mem_of_getElem? (i := 2) rfl))) (mvT hZ (hw _ (List.mem_of_getElem? (i := 3) rfl))) (mvT hZ (hw _ (List.mem_of_getElem? (i := 4) rfl))) (by decide) (backOf (W := 0) (rm_pick l Z a0 hw [] ((hi.toUInt32 >>> ((8 : Int32) &&& 31).toUInt32).toInt32) (sel &&& (8 : Int32)) h0 n0 Z0 ) hZ (hw _ (List.mem_of_getElem? (i := 4) rfl)) (hw _ (List.mem_of_getElem? (i := 3) rfl)) (by decide) (by decide)) (g := (mkF mt 46 #[.val (.int len), .val (.int lo), .val (.int hi), .val (.int sel), .val (.int nn), .val (.int c0), .val (.int c1), .val (.int c2), .unset, .unset, .unset] [(.int (sel &&& (8 : Int32))), (.int ((hi.toUInt32 >>> ((8 : Int32) &&& 31).toUInt32).toInt32))])) rfl (by rw [hml]; rfl) (argsL := [(.int ((hi.toUInt32 >>> ((8 : Int32) &&& 31).toUInt32).toInt32)), (.int (sel &&& (8 : Int32)))]) (rest := []) (lenOf pd_12 rfl) rfl (by show 2 * 0 + _ ≤ _; exact Nat.le_of_eq rfl) (hb hby at_46) (fun _ _ => ⟨rfl, e345, (by decide : 0 + 0 ≤ _), (by decide : 0 + 0 ≤ _)⟩)
  dsimp only [Pt.U, Pt.locs, Pt.cells, Pt.slots] at X346 l346 y346 z346 st346 hQ346
  subst y346 z346
  replace X346 : Stand p l e _ s mt args below meth cd T346 L346 0 0 := X346
  obtain ⟨h346, e346⟩ : ∃ z, T346.heap = z := ⟨_, rfl⟩
  rw [e346] at hQ346
  obtain ⟨rfl, Nq346, eh346⟩ := hQ346
  have N346 : Fr n0 L346 := by rw [l346]; exact Fr.app N345 Nq346
  rw [eh346] at e346
  refine Win.st ?_ st346
  show Win p e below _ T346 (mkF mt 49 #[.val (.int len), .val (.int lo), .val (.int hi), .val (.int sel), .val (.int nn), .val (.int c0), .val (.int c1), .val (.int c2), .unset, .unset, .unset] [(.int (own_pickc ((hi.toUInt32 >>> ((8 : Int32) &&& 31).toUInt32).toInt32) (sel &&& (8 : Int32))))])
  obtain ⟨c3, hq3⟩ : ∃ z, z = (own_pickc ((hi.toUInt32 >>> ((8 : Int32) &&& 31).toUInt32).toInt32) (sel &&& (8 : Int32))) := ⟨_, rfl⟩
  have hB3 : own_B c3 := by rw [hq3]; exact own_pickcB _ _
  rw [← hq3]
  show Win p e below _ T346 (mkF mt 49 #[.val (.int len), .val (.int lo), .val (.int hi), .val (.int sel), .val (.int nn), .val (.int c0), .val (.int c1), .val (.int c2), .unset, .unset, .unset] [(.int c3)])
  refine Win.st ?_ (fun tq kq => XS.istore X346.here hx rfl (hb hby at_49) rfl (l' := #[.val (.int len), .val (.int lo), .val (.int hi), .val (.int sel), .val (.int nn), .val (.int c0), .val (.int c1), .val (.int c2), .val (.int c3), .unset, .unset]) rfl kq)
  show Win p e below _ T346 (mkF mt 51 #[.val (.int len), .val (.int lo), .val (.int hi), .val (.int sel), .val (.int nn), .val (.int c0), .val (.int c1), .val (.int c2), .val (.int c3), .unset, .unset] [])
  rcases hn with rfl | rfl | rfl | rfl | rfl
  · show Win p e below _ T346 (mkF mt 51 #[.val (.int len), .val (.int lo), .val (.int hi), .val (.int sel), .val (.int (0 : Int32)), .val (.int c0), .val (.int c1), .val (.int c2), .val (.int c3), .unset, .unset] [])
    refine Win.st ?_ (fun tq kq => XS.iload X346.here hx rfl (hb hby at_51) rfl kq)
    show Win p e below _ T346 (mkF mt 53 #[.val (.int len), .val (.int lo), .val (.int hi), .val (.int sel), .val (.int (0 : Int32)), .val (.int c0), .val (.int c1), .val (.int c2), .val (.int c3), .unset, .unset] [(.int (0 : Int32))])
    refine Win.st ?_ (fun tq kq => XS.iload X346.here hx rfl (hb hby at_53) rfl kq)
    show Win p e below _ T346 (mkF mt 55 #[.val (.int len), .val (.int lo), .val (.int hi), .val (.int sel), .val (.int (0 : Int32)), .val (.int c0), .val (.int c1), .val (.int c2), .val (.int c3), .unset, .unset] [(.int c0), (.int (0 : Int32))])
    refine Win.st ?_ (fun tq kq => XS.iload X346.here hx rfl (hb hby at_55) rfl kq)
    show Win p e below _ T346 (mkF mt 57 #[.val (.int len), .val (.int lo), .val (.int hi), .val (.int sel), .val (.int (0 : Int32)), .val (.int c0), .val (.int c1), .val (.int c2), .val (.int c3), .unset, .unset] [(.int c1), (.int c0), (.int (0 : Int32))])
    refine Win.st ?_ (fun tq kq => XS.iload X346.here hx rfl (hb hby at_57) rfl kq)
    show Win p e below _ T346 (mkF mt 59 #[.val (.int len), .val (.int lo), .val (.int hi), .val (.int sel), .val (.int (0 : Int32)), .val (.int c0), .val (.int c1), .val (.int c2), .val (.int c3), .unset, .unset] [(.int c2), (.int c1), (.int c0), (.int (0 : Int32))])
    refine Win.st ?_ (fun tq kq => XS.iload X346.here hx rfl (hb hby at_59) rfl kq)
    show Win p e below _ T346 (mkF mt 61 #[.val (.int len), .val (.int lo), .val (.int hi), .val (.int sel), .val (.int (0 : Int32)), .val (.int c0), .val (.int c1), .val (.int c2), .val (.int c3), .unset, .unset] [(.int c3), (.int c2), (.int c1), (.int c0), (.int (0 : Int32))])
    obtain ⟨v347, _, ⟨T347, L347, k347, n347⟩, -, X347, hS347, hgr347, ⟨Lc347, hQ347, l347, y347, z347⟩, st347⟩ := callSS X346 hx (y := (⟨"com/example/foldkey/foldkey/store/TokenHoldsSystemPinLaw", "make", "(ICCCC)Ljava/lang/String;"⟩ : MethodName)) hown (mvT hZ (hw _ (List.mem_of_getElem? (i := 5) rfl))) (mvT hZ (hw _ (List.mem_of_getElem? (i := 6) rfl))) (mvT hZ (hw _ (List.mem_of_getElem? (i := 3) rfl))) (mvT hZ (hw _ (List.mem_of_getElem? (i := 7) rfl))) (by decide) (own_backOfSP (s := s) (vm0 := s.vm) (W := 0) (rm_make_0 l Z a0 hw [] c0 c1 c2 c3 cs h0 n0 Z0 S0 hcs O) hZ (hw _ (List.mem_of_getElem? (i := 7) rfl)) (hw _ (List.mem_of_getElem? (i := 3) rfl)) (by decide) (by decide) (own_EW hw) hC) (g := (mkF mt 61 #[.val (.int len), .val (.int lo), .val (.int hi), .val (.int sel), .val (.int (0 : Int32)), .val (.int c0), .val (.int c1), .val (.int c2), .val (.int c3), .unset, .unset] [(.int c3), (.int c2), (.int c1), (.int c0), (.int (0 : Int32))])) rfl (by rw [hml]; rfl) (argsL := [(.int (0 : Int32)), (.int c0), (.int c1), (.int c2), (.int c3)]) (rest := []) (lenOf pd_13 rfl) rfl (by show 2 * 0 + _ ≤ _; exact Nat.le_of_eq rfl) (hb hby at_61) (fun _ _ => ⟨rfl, e346, (by decide : 0 + 4 ≤ _), (by decide : 0 + 8 ≤ _)⟩)
    dsimp only [Pt.U, Pt.locs, Pt.cells, Pt.slots] at X347 l347 y347 z347 st347 hQ347 hS347
    obtain ⟨X347, hS347, hZ347, hown347⟩ := rebS (s := s) (vm0 := s.vm) (k0 := 0) (n1 := 0) (State.WarmedH.since (State.WarmedH.refl s) 0) (Nat.le_refl 0) X347 hS347 (Nat.zero_le _) hZ hown
    subst y347 z347
    replace X347 : Stand p l e _ (s.setVm T347.vm) mt args below meth cd T347 L347 4 8 := X347
    obtain ⟨h347, e347⟩ : ∃ z, T347.heap = z := ⟨_, rfl⟩
    rw [e347] at hQ347
    have hk347 : T347.heap.size ≤ h347.size := by rw [e347]; exact Nat.le_refl _
    obtain ⟨rr, rfl, Nq347, z347, O347, tt, kt, E347, fv347, fc347, V347⟩ := hQ347
    have N347 : Fr n0 L347 := by rw [l347]; exact Fr.app N346 Nq347
    refine Win.tr ?_ st347
    show Win p e below _ T347 (mkF mt 64 #[.val (.int len), .val (.int lo), .val (.int hi), .val (.int sel), .val (.int (0 : Int32)), .val (.int c0), .val (.int c1), .val (.int c2), .val (.int c3), .unset, .unset] [(.ref rr)])
    refine Win.st ?_ (fun tq kq => XS.astore X347.here hx rfl (hb hby at_64) rfl rfl (l' := #[.val (.int len), .val (.int lo), .val (.int hi), .val (.int sel), .val (.int (0 : Int32)), .val (.int c0), .val (.int c1), .val (.int c2), .val (.int c3), .val (.ref rr), .unset]) rfl kq)
    show Win p e below _ T347 (mkF mt 66 #[.val (.int len), .val (.int lo), .val (.int hi), .val (.int sel), .val (.int (0 : Int32)), .val (.int c0), .val (.int c1), .val (.int c2), .val (.int c3), .val (.ref rr), .unset] [])
    refine Win.st ?_ (fun tq kq => XS.iload X347.here hx rfl (hb hby at_66) rfl kq)
    show Win p e below _ T347 (mkF mt 68 #[.val (.int len), .val (.int lo), .val (.int hi), .val (.int sel), .val (.int (0 : Int32)), .val (.int c0), .val (.int c1), .val (.int c2), .val (.int c3), .val (.ref rr), .unset] [(.int (0 : Int32))])
    refine Win.st ?_ (fun tq kq => XS.iconst X347.here hx rfl (hb hby at_68) kq)
    show Win p e below _ T347 (mkF mt 69 #[.val (.int len), .val (.int lo), .val (.int hi), .val (.int sel), .val (.int (0 : Int32)), .val (.int c0), .val (.int c1), .val (.int c2), .val (.int c3), .val (.ref rr), .unset] [(.int (1 : Int32)), (.int (0 : Int32))])
    refine Win.st ?_ (fun tq kq => XS.icmpYes X347.here hx rfl (pc0 := 69) (pc' := 79) rfl (hb hby at_69) rfl (tlt (by decide : (0 : Int32) < (1 : Int32))).1 (by decide) (by decide) kq)
    show Win p e below _ T347 (mkF mt 79 #[.val (.int len), .val (.int lo), .val (.int hi), .val (.int sel), .val (.int (0 : Int32)), .val (.int c0), .val (.int c1), .val (.int c2), .val (.int c3), .val (.ref rr), .unset] [])
    refine Win.st ?_ (fun tq kq => XS.iload X347.here hx rfl (hb hby at_79) rfl kq)
    show Win p e below _ T347 (mkF mt 81 #[.val (.int len), .val (.int lo), .val (.int hi), .val (.int sel), .val (.int (0 : Int32)), .val (.int c0), .val (.int c1), .val (.int c2), .val (.int c3), .val (.ref rr), .unset] [(.int (0 : Int32))])
    refine Win.st ?_ (fun tq kq => XS.iconst X347.here hx rfl (hb hby at_81) kq)
    show Win p e below _ T347 (mkF mt 82 #[.val (.int len), .val (.int lo), .val (.int hi), .val (.int sel), .val (.int (0 : Int32)), .val (.int c0), .val (.int c1), .val (.int c2), .val (.int c3), .val (.ref rr), .unset] [(.int (2 : Int32)), (.int (0 : Int32))])
    refine Win.st ?_ (fun tq kq => XS.icmpYes X347.here hx rfl (pc0 := 82) (pc' := 92) rfl (hb hby at_82) rfl (tlt (by decide : (0 : Int32) < (2 : Int32))).1 (by decide) (by decide) kq)
    show Win p e below _ T347 (mkF mt 92 #[.val (.int len), .val (.int lo), .val (.int hi), .val (.int sel), .val (.int (0 : Int32)), .val (.int c0), .val (.int c1), .val (.int c2), .val (.int c3), .val (.ref rr), .unset] [])
    refine Win.st ?_ (fun tq kq => XS.iload X347.here hx rfl (hb hby at_92) rfl kq)
    show Win p e below _ T347 (mkF mt 94 #[.val (.int len), .val (.int lo), .val (.int hi), .val (.int sel), .val (.int (0 : Int32)), .val (.int c0), .val (.int c1), .val (.int c2), .val (.int c3), .val (.ref rr), .unset] [(.int (0 : Int32))])
    refine Win.st ?_ (fun tq kq => XS.iconst X347.here hx rfl (hb hby at_94) kq)
    show Win p e below _ T347 (mkF mt 95 #[.val (.int len), .val (.int lo), .val (.int hi), .val (.int sel), .val (.int (0 : Int32)), .val (.int c0), .val (.int c1), .val (.int c2), .val (.int c3), .val (.ref rr), .unset] [(.int (3 : Int32)), (.int (0 : Int32))])
    refine Win.st ?_ (fun tq kq => XS.icmpYes X347.here hx rfl (pc0 := 95) (pc' := 105) rfl (hb hby at_95) rfl (tlt (by decide : (0 : Int32) < (3 : Int32))).1 (by decide) (by decide) kq)
    show Win p e below _ T347 (mkF mt 105 #[.val (.int len), .val (.int lo), .val (.int hi), .val (.int sel), .val (.int (0 : Int32)), .val (.int c0), .val (.int c1), .val (.int c2), .val (.int c3), .val (.ref rr), .unset] [])
    refine Win.st ?_ (fun tq kq => XS.iload X347.here hx rfl (hb hby at_105) rfl kq)
    show Win p e below _ T347 (mkF mt 107 #[.val (.int len), .val (.int lo), .val (.int hi), .val (.int sel), .val (.int (0 : Int32)), .val (.int c0), .val (.int c1), .val (.int c2), .val (.int c3), .val (.ref rr), .unset] [(.int (0 : Int32))])
    refine Win.st ?_ (fun tq kq => XS.iconst X347.here hx rfl (hb hby at_107) kq)
    show Win p e below _ T347 (mkF mt 108 #[.val (.int len), .val (.int lo), .val (.int hi), .val (.int sel), .val (.int (0 : Int32)), .val (.int c0), .val (.int c1), .val (.int c2), .val (.int c3), .val (.ref rr), .unset] [(.int (4 : Int32)), (.int (0 : Int32))])
    refine Win.st ?_ (fun tq kq => XS.icmpYes X347.here hx rfl (pc0 := 108) (pc' := 118) rfl (hb hby at_108) rfl (tlt (by decide : (0 : Int32) < (4 : Int32))).1 (by decide) (by decide) kq)
    show Win p e below _ T347 (mkF mt 118 #[.val (.int len), .val (.int lo), .val (.int hi), .val (.int sel), .val (.int (0 : Int32)), .val (.int c0), .val (.int c1), .val (.int c2), .val (.int c3), .val (.ref rr), .unset] [])
    refine Win.st ?_ (fun tq kq => XS.iconst X347.here hx rfl (hb hby at_118) kq)
    show Win p e below _ T347 (mkF mt 119 #[.val (.int len), .val (.int lo), .val (.int hi), .val (.int sel), .val (.int (0 : Int32)), .val (.int c0), .val (.int c1), .val (.int c2), .val (.int c3), .val (.ref rr), .unset] [(.int (1 : Int32))])
    refine Win.st ?_ (fun tq kq => XS.goto X347.here hx rfl (pc0 := 119) (pc' := 123) rfl (hb hby at_119) (by decide) (by decide) kq)
    show Win p e below _ T347 (mkF mt 123 #[.val (.int len), .val (.int lo), .val (.int hi), .val (.int sel), .val (.int (0 : Int32)), .val (.int c0), .val (.int c1), .val (.int c2), .val (.int c3), .val (.ref rr), .unset] [(.int (1 : Int32))])
    refine Win.st ?_ (fun tq kq => XS.istore X347.here hx rfl (hb hby at_123) rfl (l' := #[.val (.int len), .val (.int lo), .val (.int hi), .val (.int sel), .val (.int (0 : Int32)), .val (.int c0), .val (.int c1), .val (.int c2), .val (.int c3), .val (.ref rr), .val (.int (1 : Int32))]) rfl kq)
    show Win p e below _ T347 (mkF mt 125 #[.val (.int len), .val (.int lo), .val (.int hi), .val (.int sel), .val (.int (0 : Int32)), .val (.int c0), .val (.int c1), .val (.int c2), .val (.int c3), .val (.ref rr), .val (.int (1 : Int32))] [])
    refine Win.st ?_ (fun tq kq => XS.aload X347.here hx rfl (hb hby at_125) rfl rfl kq)
    show Win p e below _ T347 (mkF mt 127 #[.val (.int len), .val (.int lo), .val (.int hi), .val (.int sel), .val (.int (0 : Int32)), .val (.int c0), .val (.int c1), .val (.int c2), .val (.int c3), .val (.ref rr), .val (.int (1 : Int32))] [(.ref rr)])
    obtain ⟨v348, _, ⟨T348, L348, k348, n348⟩, -, X348, ⟨Lc348, hQ348, l348, y348, z348⟩, st348⟩ := Jvm.LawKit.callS X347 hx (y := (⟨"com/example/foldkey/foldkey/store/Token", "holdsSystem", "(Ljava/lang/String;)Z"⟩ : MethodName)) hown347 (mvT hZ347 (hw _ (List.mem_of_getElem? (i := 30) rfl))) (mvT hZ347 (hw _ (List.mem_of_getElem? (i := 31) rfl))) (mvT hZ347 (hw _ (List.mem_of_getElem? (i := 32) rfl))) (mvT hZ347 (hw _ (List.mem_of_getElem? (i := 33) rfl))) (by decide) (backOf (W := 0) (rm_hsy_0 l Z a0 hw [] rr tt kt cs h347 n0 z347 E347 fv347 fc347 V347 S0 hcs O347) hZ347 (hw _ (List.mem_of_getElem? (i := 33) rfl)) (hw _ (List.mem_of_getElem? (i := 32) rfl)) (by decide) (by decide)) (g := (mkF mt 127 #[.val (.int len), .val (.int lo), .val (.int hi), .val (.int sel), .val (.int (0 : Int32)), .val (.int c0), .val (.int c1), .val (.int c2), .val (.int c3), .val (.ref rr), .val (.int (1 : Int32))] [(.ref rr)])) rfl (by rw [hml]; rfl) (argsL := [(.ref rr)]) (rest := []) (lenOf pd_14 rfl) rfl (by show 2 * 0 + _ ≤ _; exact Nat.le_of_eq rfl) (hb hby at_127) (fun _ _ => ⟨rfl, e347, (by decide : 4 + 0 ≤ _), (by decide : 8 + 0 ≤ _)⟩)
    dsimp only [Pt.U, Pt.locs, Pt.cells, Pt.slots] at X348 l348 y348 z348 st348 hQ348
    subst y348 z348
    replace X348 : Stand p l e _ (s.setVm T347.vm) mt args below meth cd T348 L348 4 8 := X348
    obtain ⟨h348, e348⟩ : ∃ z, T348.heap = z := ⟨_, rfl⟩
    rw [e348] at hQ348
    obtain ⟨qq, rfl, Nq348, eh348, hy, hno⟩ := hQ348
    have N348 : Fr n0 L348 := by rw [l348]; exact Fr.app N347 Nq348
    rw [eh348] at e348
    refine Win.st ?_ st348
    show Win p e below _ T348 (mkF mt 130 #[.val (.int len), .val (.int lo), .val (.int hi), .val (.int sel), .val (.int (0 : Int32)), .val (.int c0), .val (.int c1), .val (.int c2), .val (.int c3), .val (.ref rr), .val (.int (1 : Int32))] [(.int qq)])
    refine Win.st ?_ (fun tq kq => XS.iload X348.here hx rfl (hb hby at_130) rfl kq)
    show Win p e below _ T348 (mkF mt 132 #[.val (.int len), .val (.int lo), .val (.int hi), .val (.int sel), .val (.int (0 : Int32)), .val (.int c0), .val (.int c1), .val (.int c2), .val (.int c3), .val (.ref rr), .val (.int (1 : Int32))] [(.int (1 : Int32)), (.int qq)])
    refine Win.st ?_ (fun tq kq => XS.icmpNo X348.here hx rfl (hb hby at_132) rfl (teq (hy trivial)).2 kq)
    show Win p e below _ T348 (mkF mt 135 #[.val (.int len), .val (.int lo), .val (.int hi), .val (.int sel), .val (.int (0 : Int32)), .val (.int c0), .val (.int c1), .val (.int c2), .val (.int c3), .val (.ref rr), .val (.int (1 : Int32))] [])
    refine Win.st ?_ (fun tq kq => XS.iconst X348.here hx rfl (hb hby at_135) kq)
    show Win p e below _ T348 (mkF mt 136 #[.val (.int len), .val (.int lo), .val (.int hi), .val (.int sel), .val (.int (0 : Int32)), .val (.int c0), .val (.int c1), .val (.int c2), .val (.int c3), .val (.ref rr), .val (.int (1 : Int32))] [(.int (1 : Int32))])
    refine Win.st ?_ (fun tq kq => XS.goto X348.here hx rfl (pc0 := 136) (pc' := 140) rfl (hb hby at_136) (by decide) (by decide) kq)
    show Win p e below _ T348 (mkF mt 140 #[.val (.int len), .val (.int lo), .val (.int hi), .val (.int sel), .val (.int (0 : Int32)), .val (.int c0), .val (.int c1), .val (.int c2), .val (.int c3), .val (.ref rr), .val (.int (1 : Int32))] [(.int (1 : Int32))])
    exact Win.retNW (s := s) (vm₁ := T347.vm) X348 hS347 hk347 hx hlk e348 (t := .boolean) (z' := (1 : Int32)) hrt (by simp) (hb hby at_140) (by decide) (by decide) rfl ⟨rfl, N348⟩
  · show Win p e below _ T346 (mkF mt 51 #[.val (.int len), .val (.int lo), .val (.int hi), .val (.int sel), .val (.int (1 : Int32)), .val (.int c0), .val (.int c1), .val (.int c2), .val (.int c3), .unset, .unset] [])
    refine Win.st ?_ (fun tq kq => XS.iload X346.here hx rfl (hb hby at_51) rfl kq)
    show Win p e below _ T346 (mkF mt 53 #[.val (.int len), .val (.int lo), .val (.int hi), .val (.int sel), .val (.int (1 : Int32)), .val (.int c0), .val (.int c1), .val (.int c2), .val (.int c3), .unset, .unset] [(.int (1 : Int32))])
    refine Win.st ?_ (fun tq kq => XS.iload X346.here hx rfl (hb hby at_53) rfl kq)
    show Win p e below _ T346 (mkF mt 55 #[.val (.int len), .val (.int lo), .val (.int hi), .val (.int sel), .val (.int (1 : Int32)), .val (.int c0), .val (.int c1), .val (.int c2), .val (.int c3), .unset, .unset] [(.int c0), (.int (1 : Int32))])
    refine Win.st ?_ (fun tq kq => XS.iload X346.here hx rfl (hb hby at_55) rfl kq)
    show Win p e below _ T346 (mkF mt 57 #[.val (.int len), .val (.int lo), .val (.int hi), .val (.int sel), .val (.int (1 : Int32)), .val (.int c0), .val (.int c1), .val (.int c2), .val (.int c3), .unset, .unset] [(.int c1), (.int c0), (.int (1 : Int32))])
    refine Win.st ?_ (fun tq kq => XS.iload X346.here hx rfl (hb hby at_57) rfl kq)
    show Win p e below _ T346 (mkF mt 59 #[.val (.int len), .val (.int lo), .val (.int hi), .val (.int sel), .val (.int (1 : Int32)), .val (.int c0), .val (.int c1), .val (.int c2), .val (.int c3), .unset, .unset] [(.int c2), (.int c1), (.int c0), (.int (1 : Int32))])
    refine Win.st ?_ (fun tq kq => XS.iload X346.here hx rfl (hb hby at_59) rfl kq)
    show Win p e below _ T346 (mkF mt 61 #[.val (.int len), .val (.int lo), .val (.int hi), .val (.int sel), .val (.int (1 : Int32)), .val (.int c0), .val (.int c1), .val (.int c2), .val (.int c3), .unset, .unset] [(.int c3), (.int c2), (.int c1), (.int c0), (.int (1 : Int32))])
    obtain ⟨v349, _, ⟨T349, L349, k349, n349⟩, -, X349, ⟨Lc349, hQ349, l349, y349, z349⟩, st349⟩ := Jvm.LawKit.callS X346 hx (y := (⟨"com/example/foldkey/foldkey/store/TokenHoldsSystemPinLaw", "make", "(ICCCC)Ljava/lang/String;"⟩ : MethodName)) hown (mvT hZ (hw _ (List.mem_of_getElem? (i := 5) rfl))) (mvT hZ (hw _ (List.mem_of_getElem? (i := 6) rfl))) (mvT hZ (hw _ (List.mem_of_getElem? (i := 3) rfl))) (mvT hZ (hw _ (List.mem_of_getElem? (i := 7) rfl))) (by decide) (backOf (W := 0) (rm_make_1 l Z a0 hw [] c0 c1 c2 c3 cs h0 n0 Z0 S0 hcs O hB0) hZ (hw _ (List.mem_of_getElem? (i := 7) rfl)) (hw _ (List.mem_of_getElem? (i := 3) rfl)) (by decide) (by decide)) (g := (mkF mt 61 #[.val (.int len), .val (.int lo), .val (.int hi), .val (.int sel), .val (.int (1 : Int32)), .val (.int c0), .val (.int c1), .val (.int c2), .val (.int c3), .unset, .unset] [(.int c3), (.int c2), (.int c1), (.int c0), (.int (1 : Int32))])) rfl (by rw [hml]; rfl) (argsL := [(.int (1 : Int32)), (.int c0), (.int c1), (.int c2), (.int c3)]) (rest := []) (lenOf pd_13 rfl) rfl (by show 2 * 0 + _ ≤ _; exact Nat.le_of_eq rfl) (hb hby at_61) (fun _ _ => ⟨rfl, e346, (by decide : 0 + 3 ≤ _), (by decide : 0 + 6 ≤ _)⟩)
    dsimp only [Pt.U, Pt.locs, Pt.cells, Pt.slots] at X349 l349 y349 z349 st349 hQ349
    subst y349 z349
    replace X349 : Stand p l e _ s mt args below meth cd T349 L349 3 6 := X349
    obtain ⟨h349, e349⟩ : ∃ z, T349.heap = z := ⟨_, rfl⟩
    rw [e349] at hQ349
    obtain ⟨rr, rfl, Nq349, z349, O349, tt, kt, E349, fv349, fc349, V349⟩ := hQ349
    have N349 : Fr n0 L349 := by rw [l349]; exact Fr.app N346 Nq349
    refine Win.st ?_ st349
    show Win p e below _ T349 (mkF mt 64 #[.val (.int len), .val (.int lo), .val (.int hi), .val (.int sel), .val (.int (1 : Int32)), .val (.int c0), .val (.int c1), .val (.int c2), .val (.int c3), .unset, .unset] [(.ref rr)])
    refine Win.st ?_ (fun tq kq => XS.astore X349.here hx rfl (hb hby at_64) rfl rfl (l' := #[.val (.int len), .val (.int lo), .val (.int hi), .val (.int sel), .val (.int (1 : Int32)), .val (.int c0), .val (.int c1), .val (.int c2), .val (.int c3), .val (.ref rr), .unset]) rfl kq)
    show Win p e below _ T349 (mkF mt 66 #[.val (.int len), .val (.int lo), .val (.int hi), .val (.int sel), .val (.int (1 : Int32)), .val (.int c0), .val (.int c1), .val (.int c2), .val (.int c3), .val (.ref rr), .unset] [])
    refine Win.st ?_ (fun tq kq => XS.iload X349.here hx rfl (hb hby at_66) rfl kq)
    show Win p e below _ T349 (mkF mt 68 #[.val (.int len), .val (.int lo), .val (.int hi), .val (.int sel), .val (.int (1 : Int32)), .val (.int c0), .val (.int c1), .val (.int c2), .val (.int c3), .val (.ref rr), .unset] [(.int (1 : Int32))])
    refine Win.st ?_ (fun tq kq => XS.iconst X349.here hx rfl (hb hby at_68) kq)
    show Win p e below _ T349 (mkF mt 69 #[.val (.int len), .val (.int lo), .val (.int hi), .val (.int sel), .val (.int (1 : Int32)), .val (.int c0), .val (.int c1), .val (.int c2), .val (.int c3), .val (.ref rr), .unset] [(.int (1 : Int32)), (.int (1 : Int32))])
    refine Win.st ?_ (fun tq kq => XS.icmpNo X349.here hx rfl (hb hby at_69) rfl (flt (Int32.lt_irrefl)).1 kq)
    show Win p e below _ T349 (mkF mt 72 #[.val (.int len), .val (.int lo), .val (.int hi), .val (.int sel), .val (.int (1 : Int32)), .val (.int c0), .val (.int c1), .val (.int c2), .val (.int c3), .val (.ref rr), .unset] [])
    refine Win.st ?_ (fun tq kq => XS.iload X349.here hx rfl (hb hby at_72) rfl kq)
    show Win p e below _ T349 (mkF mt 74 #[.val (.int len), .val (.int lo), .val (.int hi), .val (.int sel), .val (.int (1 : Int32)), .val (.int c0), .val (.int c1), .val (.int c2), .val (.int c3), .val (.ref rr), .unset] [(.int c0)])
    refine Win.st ?_ (fun tq kq => XS.bipush X349.here hx rfl (hb hby at_74) kq)
    show Win p e below _ T349 (mkF mt 76 #[.val (.int len), .val (.int lo), .val (.int hi), .val (.int sel), .val (.int (1 : Int32)), .val (.int c0), .val (.int c1), .val (.int c2), .val (.int c3), .val (.ref rr), .unset] [(.int (124 : Int32)), (.int c0)])
    by_cases hc76 : c0 = (124 : Int32)
    · refine Win.st ?_ (fun tq kq => XS.icmpYes X349.here hx rfl (pc0 := 76) (pc' := 122) rfl (hb hby at_76) rfl (teq hc76).1 (by decide) (by decide) kq)
      show Win p e below _ T349 (mkF mt 122 #[.val (.int len), .val (.int lo), .val (.int hi), .val (.int sel), .val (.int (1 : Int32)), .val (.int c0), .val (.int c1), .val (.int c2), .val (.int c3), .val (.ref rr), .unset] [])
      refine Win.st ?_ (fun tq kq => XS.iconst X349.here hx rfl (hb hby at_122) kq)
      show Win p e below _ T349 (mkF mt 123 #[.val (.int len), .val (.int lo), .val (.int hi), .val (.int sel), .val (.int (1 : Int32)), .val (.int c0), .val (.int c1), .val (.int c2), .val (.int c3), .val (.ref rr), .unset] [(.int (0 : Int32))])
      refine Win.st ?_ (fun tq kq => XS.istore X349.here hx rfl (hb hby at_123) rfl (l' := #[.val (.int len), .val (.int lo), .val (.int hi), .val (.int sel), .val (.int (1 : Int32)), .val (.int c0), .val (.int c1), .val (.int c2), .val (.int c3), .val (.ref rr), .val (.int (0 : Int32))]) rfl kq)
      show Win p e below _ T349 (mkF mt 125 #[.val (.int len), .val (.int lo), .val (.int hi), .val (.int sel), .val (.int (1 : Int32)), .val (.int c0), .val (.int c1), .val (.int c2), .val (.int c3), .val (.ref rr), .val (.int (0 : Int32))] [])
      refine Win.st ?_ (fun tq kq => XS.aload X349.here hx rfl (hb hby at_125) rfl rfl kq)
      show Win p e below _ T349 (mkF mt 127 #[.val (.int len), .val (.int lo), .val (.int hi), .val (.int sel), .val (.int (1 : Int32)), .val (.int c0), .val (.int c1), .val (.int c2), .val (.int c3), .val (.ref rr), .val (.int (0 : Int32))] [(.ref rr)])
      obtain ⟨v350, _, ⟨T350, L350, k350, n350⟩, -, X350, ⟨Lc350, hQ350, l350, y350, z350⟩, st350⟩ := Jvm.LawKit.callS X349 hx (y := (⟨"com/example/foldkey/foldkey/store/Token", "holdsSystem", "(Ljava/lang/String;)Z"⟩ : MethodName)) hown (mvT hZ (hw _ (List.mem_of_getElem? (i := 30) rfl))) (mvT hZ (hw _ (List.mem_of_getElem? (i := 31) rfl))) (mvT hZ (hw _ (List.mem_of_getElem? (i := 32) rfl))) (mvT hZ (hw _ (List.mem_of_getElem? (i := 33) rfl))) (by decide) (backOf (W := 0) (rm_hsy_1 l Z a0 hw [] rr tt kt cs c0 h349 n0 z349 E349 fv349 fc349 V349 S0 hcs O349 hB0) hZ (hw _ (List.mem_of_getElem? (i := 33) rfl)) (hw _ (List.mem_of_getElem? (i := 32) rfl)) (by decide) (by decide)) (g := (mkF mt 127 #[.val (.int len), .val (.int lo), .val (.int hi), .val (.int sel), .val (.int (1 : Int32)), .val (.int c0), .val (.int c1), .val (.int c2), .val (.int c3), .val (.ref rr), .val (.int (0 : Int32))] [(.ref rr)])) rfl (by rw [hml]; rfl) (argsL := [(.ref rr)]) (rest := []) (lenOf pd_14 rfl) rfl (by show 2 * 0 + _ ≤ _; exact Nat.le_of_eq rfl) (hb hby at_127) (fun _ _ => ⟨rfl, e349, (by decide : 3 + 0 ≤ _), (by decide : 6 + 0 ≤ _)⟩)
      dsimp only [Pt.U, Pt.locs, Pt.cells, Pt.slots] at X350 l350 y350 z350 st350 hQ350
      subst y350 z350
      replace X350 : Stand p l e _ s mt args below meth cd T350 L350 3 6 := X350
      obtain ⟨h350, e350⟩ : ∃ z, T350.heap = z := ⟨_, rfl⟩
      rw [e350] at hQ350
      obtain ⟨qq, rfl, Nq350, eh350, hy, hno⟩ := hQ350
      have N350 : Fr n0 L350 := by rw [l350]; exact Fr.app N349 Nq350
      rw [eh350] at e350
      refine Win.st ?_ st350
      show Win p e below _ T350 (mkF mt 130 #[.val (.int len), .val (.int lo), .val (.int hi), .val (.int sel), .val (.int (1 : Int32)), .val (.int c0), .val (.int c1), .val (.int c2), .val (.int c3), .val (.ref rr), .val (.int (0 : Int32))] [(.int qq)])
      refine Win.st ?_ (fun tq kq => XS.iload X350.here hx rfl (hb hby at_130) rfl kq)
      show Win p e below _ T350 (mkF mt 132 #[.val (.int len), .val (.int lo), .val (.int hi), .val (.int sel), .val (.int (1 : Int32)), .val (.int c0), .val (.int c1), .val (.int c2), .val (.int c3), .val (.ref rr), .val (.int (0 : Int32))] [(.int (0 : Int32)), (.int qq)])
      refine Win.st ?_ (fun tq kq => XS.icmpNo X350.here hx rfl (hb hby at_132) rfl (teq (hno fun q => q hc76)).2 kq)
      show Win p e below _ T350 (mkF mt 135 #[.val (.int len), .val (.int lo), .val (.int hi), .val (.int sel), .val (.int (1 : Int32)), .val (.int c0), .val (.int c1), .val (.int c2), .val (.int c3), .val (.ref rr), .val (.int (0 : Int32))] [])
      refine Win.st ?_ (fun tq kq => XS.iconst X350.here hx rfl (hb hby at_135) kq)
      show Win p e below _ T350 (mkF mt 136 #[.val (.int len), .val (.int lo), .val (.int hi), .val (.int sel), .val (.int (1 : Int32)), .val (.int c0), .val (.int c1), .val (.int c2), .val (.int c3), .val (.ref rr), .val (.int (0 : Int32))] [(.int (1 : Int32))])
      refine Win.st ?_ (fun tq kq => XS.goto X350.here hx rfl (pc0 := 136) (pc' := 140) rfl (hb hby at_136) (by decide) (by decide) kq)
      show Win p e below _ T350 (mkF mt 140 #[.val (.int len), .val (.int lo), .val (.int hi), .val (.int sel), .val (.int (1 : Int32)), .val (.int c0), .val (.int c1), .val (.int c2), .val (.int c3), .val (.ref rr), .val (.int (0 : Int32))] [(.int (1 : Int32))])
      exact Win.retNW (s := s) (vm₁ := s.vm) X350 (State.WarmedH.since (State.WarmedH.refl s) 0) (Nat.zero_le _) hx hlk e350 (t := .boolean) (z' := (1 : Int32)) hrt (by simp) (hb hby at_140) (by decide) (by decide) rfl ⟨rfl, N350⟩
    · refine Win.st ?_ (fun tq kq => XS.icmpNo X349.here hx rfl (hb hby at_76) rfl (feq hc76).1 kq)
      show Win p e below _ T349 (mkF mt 79 #[.val (.int len), .val (.int lo), .val (.int hi), .val (.int sel), .val (.int (1 : Int32)), .val (.int c0), .val (.int c1), .val (.int c2), .val (.int c3), .val (.ref rr), .unset] [])
      refine Win.st ?_ (fun tq kq => XS.iload X349.here hx rfl (hb hby at_79) rfl kq)
      show Win p e below _ T349 (mkF mt 81 #[.val (.int len), .val (.int lo), .val (.int hi), .val (.int sel), .val (.int (1 : Int32)), .val (.int c0), .val (.int c1), .val (.int c2), .val (.int c3), .val (.ref rr), .unset] [(.int (1 : Int32))])
      refine Win.st ?_ (fun tq kq => XS.iconst X349.here hx rfl (hb hby at_81) kq)
      show Win p e below _ T349 (mkF mt 82 #[.val (.int len), .val (.int lo), .val (.int hi), .val (.int sel), .val (.int (1 : Int32)), .val (.int c0), .val (.int c1), .val (.int c2), .val (.int c3), .val (.ref rr), .unset] [(.int (2 : Int32)), (.int (1 : Int32))])
      refine Win.st ?_ (fun tq kq => XS.icmpYes X349.here hx rfl (pc0 := 82) (pc' := 92) rfl (hb hby at_82) rfl (tlt (by decide : (1 : Int32) < (2 : Int32))).1 (by decide) (by decide) kq)
      show Win p e below _ T349 (mkF mt 92 #[.val (.int len), .val (.int lo), .val (.int hi), .val (.int sel), .val (.int (1 : Int32)), .val (.int c0), .val (.int c1), .val (.int c2), .val (.int c3), .val (.ref rr), .unset] [])
      refine Win.st ?_ (fun tq kq => XS.iload X349.here hx rfl (hb hby at_92) rfl kq)
      show Win p e below _ T349 (mkF mt 94 #[.val (.int len), .val (.int lo), .val (.int hi), .val (.int sel), .val (.int (1 : Int32)), .val (.int c0), .val (.int c1), .val (.int c2), .val (.int c3), .val (.ref rr), .unset] [(.int (1 : Int32))])
      refine Win.st ?_ (fun tq kq => XS.iconst X349.here hx rfl (hb hby at_94) kq)
      show Win p e below _ T349 (mkF mt 95 #[.val (.int len), .val (.int lo), .val (.int hi), .val (.int sel), .val (.int (1 : Int32)), .val (.int c0), .val (.int c1), .val (.int c2), .val (.int c3), .val (.ref rr), .unset] [(.int (3 : Int32)), (.int (1 : Int32))])
      refine Win.st ?_ (fun tq kq => XS.icmpYes X349.here hx rfl (pc0 := 95) (pc' := 105) rfl (hb hby at_95) rfl (tlt (by decide : (1 : Int32) < (3 : Int32))).1 (by decide) (by decide) kq)
      show Win p e below _ T349 (mkF mt 105 #[.val (.int len), .val (.int lo), .val (.int hi), .val (.int sel), .val (.int (1 : Int32)), .val (.int c0), .val (.int c1), .val (.int c2), .val (.int c3), .val (.ref rr), .unset] [])
      refine Win.st ?_ (fun tq kq => XS.iload X349.here hx rfl (hb hby at_105) rfl kq)
      show Win p e below _ T349 (mkF mt 107 #[.val (.int len), .val (.int lo), .val (.int hi), .val (.int sel), .val (.int (1 : Int32)), .val (.int c0), .val (.int c1), .val (.int c2), .val (.int c3), .val (.ref rr), .unset] [(.int (1 : Int32))])
      refine Win.st ?_ (fun tq kq => XS.iconst X349.here hx rfl (hb hby at_107) kq)
      show Win p e below _ T349 (mkF mt 108 #[.val (.int len), .val (.int lo), .val (.int hi), .val (.int sel), .val (.int (1 : Int32)), .val (.int c0), .val (.int c1), .val (.int c2), .val (.int c3), .val (.ref rr), .unset] [(.int (4 : Int32)), (.int (1 : Int32))])
      refine Win.st ?_ (fun tq kq => XS.icmpYes X349.here hx rfl (pc0 := 108) (pc' := 118) rfl (hb hby at_108) rfl (tlt (by decide : (1 : Int32) < (4 : Int32))).1 (by decide) (by decide) kq)
      show Win p e below _ T349 (mkF mt 118 #[.val (.int len), .val (.int lo), .val (.int hi), .val (.int sel), .val (.int (1 : Int32)), .val (.int c0), .val (.int c1), .val (.int c2), .val (.int c3), .val (.ref rr), .unset] [])
      refine Win.st ?_ (fun tq kq => XS.iconst X349.here hx rfl (hb hby at_118) kq)
      show Win p e below _ T349 (mkF mt 119 #[.val (.int len), .val (.int lo), .val (.int hi), .val (.int sel), .val (.int (1 : Int32)), .val (.int c0), .val (.int c1), .val (.int c2), .val (.int c3), .val (.ref rr), .unset] [(.int (1 : Int32))])
      refine Win.st ?_ (fun tq kq => XS.goto X349.here hx rfl (pc0 := 119) (pc' := 123) rfl (hb hby at_119) (by decide) (by decide) kq)
      show Win p e below _ T349 (mkF mt 123 #[.val (.int len), .val (.int lo), .val (.int hi), .val (.int sel), .val (.int (1 : Int32)), .val (.int c0), .val (.int c1), .val (.int c2), .val (.int c3), .val (.ref rr), .unset] [(.int (1 : Int32))])
      refine Win.st ?_ (fun tq kq => XS.istore X349.here hx rfl (hb hby at_123) rfl (l' := #[.val (.int len), .val (.int lo), .val (.int hi), .val (.int sel), .val (.int (1 : Int32)), .val (.int c0), .val (.int c1), .val (.int c2), .val (.int c3), .val (.ref rr), .val (.int (1 : Int32))]) rfl kq)
      show Win p e below _ T349 (mkF mt 125 #[.val (.int len), .val (.int lo), .val (.int hi), .val (.int sel), .val (.int (1 : Int32)), .val (.int c0), .val (.int c1), .val (.int c2), .val (.int c3), .val (.ref rr), .val (.int (1 : Int32))] [])
      refine Win.st ?_ (fun tq kq => XS.aload X349.here hx rfl (hb hby at_125) rfl rfl kq)
      show Win p e below _ T349 (mkF mt 127 #[.val (.int len), .val (.int lo), .val (.int hi), .val (.int sel), .val (.int (1 : Int32)), .val (.int c0), .val (.int c1), .val (.int c2), .val (.int c3), .val (.ref rr), .val (.int (1 : Int32))] [(.ref rr)])
      obtain ⟨v351, _, ⟨T351, L351, k351, n351⟩, -, X351, ⟨Lc351, hQ351, l351, y351, z351⟩, st351⟩ := Jvm.LawKit.callS X349 hx (y := (⟨"com/example/foldkey/foldkey/store/Token", "holdsSystem", "(Ljava/lang/String;)Z"⟩ : MethodName)) hown (mvT hZ (hw _ (List.mem_of_getElem? (i := 30) rfl))) (mvT hZ (hw _ (List.mem_of_getElem? (i := 31) rfl))) (mvT hZ (hw _ (List.mem_of_getElem? (i := 32) rfl))) (mvT hZ (hw _ (List.mem_of_getElem? (i := 33) rfl))) (by decide) (backOf (W := 0) (rm_hsy_1 l Z a0 hw [] rr tt kt cs c0 h349 n0 z349 E349 fv349 fc349 V349 S0 hcs O349 hB0) hZ (hw _ (List.mem_of_getElem? (i := 33) rfl)) (hw _ (List.mem_of_getElem? (i := 32) rfl)) (by decide) (by decide)) (g := (mkF mt 127 #[.val (.int len), .val (.int lo), .val (.int hi), .val (.int sel), .val (.int (1 : Int32)), .val (.int c0), .val (.int c1), .val (.int c2), .val (.int c3), .val (.ref rr), .val (.int (1 : Int32))] [(.ref rr)])) rfl (by rw [hml]; rfl) (argsL := [(.ref rr)]) (rest := []) (lenOf pd_14 rfl) rfl (by show 2 * 0 + _ ≤ _; exact Nat.le_of_eq rfl) (hb hby at_127) (fun _ _ => ⟨rfl, e349, (by decide : 3 + 0 ≤ _), (by decide : 6 + 0 ≤ _)⟩)
      dsimp only [Pt.U, Pt.locs, Pt.cells, Pt.slots] at X351 l351 y351 z351 st351 hQ351
      subst y351 z351
      replace X351 : Stand p l e _ s mt args below meth cd T351 L351 3 6 := X351
      obtain ⟨h351, e351⟩ : ∃ z, T351.heap = z := ⟨_, rfl⟩
      rw [e351] at hQ351
      obtain ⟨qq, rfl, Nq351, eh351, hy, hno⟩ := hQ351
      have N351 : Fr n0 L351 := by rw [l351]; exact Fr.app N349 Nq351
      rw [eh351] at e351
      refine Win.st ?_ st351
      show Win p e below _ T351 (mkF mt 130 #[.val (.int len), .val (.int lo), .val (.int hi), .val (.int sel), .val (.int (1 : Int32)), .val (.int c0), .val (.int c1), .val (.int c2), .val (.int c3), .val (.ref rr), .val (.int (1 : Int32))] [(.int qq)])
      refine Win.st ?_ (fun tq kq => XS.iload X351.here hx rfl (hb hby at_130) rfl kq)
      show Win p e below _ T351 (mkF mt 132 #[.val (.int len), .val (.int lo), .val (.int hi), .val (.int sel), .val (.int (1 : Int32)), .val (.int c0), .val (.int c1), .val (.int c2), .val (.int c3), .val (.ref rr), .val (.int (1 : Int32))] [(.int (1 : Int32)), (.int qq)])
      refine Win.st ?_ (fun tq kq => XS.icmpNo X351.here hx rfl (hb hby at_132) rfl (teq (hy hc76)).2 kq)
      show Win p e below _ T351 (mkF mt 135 #[.val (.int len), .val (.int lo), .val (.int hi), .val (.int sel), .val (.int (1 : Int32)), .val (.int c0), .val (.int c1), .val (.int c2), .val (.int c3), .val (.ref rr), .val (.int (1 : Int32))] [])
      refine Win.st ?_ (fun tq kq => XS.iconst X351.here hx rfl (hb hby at_135) kq)
      show Win p e below _ T351 (mkF mt 136 #[.val (.int len), .val (.int lo), .val (.int hi), .val (.int sel), .val (.int (1 : Int32)), .val (.int c0), .val (.int c1), .val (.int c2), .val (.int c3), .val (.ref rr), .val (.int (1 : Int32))] [(.int (1 : Int32))])
      refine Win.st ?_ (fun tq kq => XS.goto X351.here hx rfl (pc0 := 136) (pc' := 140) rfl (hb hby at_136) (by decide) (by decide) kq)
      show Win p e below _ T351 (mkF mt 140 #[.val (.int len), .val (.int lo), .val (.int hi), .val (.int sel), .val (.int (1 : Int32)), .val (.int c0), .val (.int c1), .val (.int c2), .val (.int c3), .val (.ref rr), .val (.int (1 : Int32))] [(.int (1 : Int32))])
      exact Win.retNW (s := s) (vm₁ := s.vm) X351 (State.WarmedH.since (State.WarmedH.refl s) 0) (Nat.zero_le _) hx hlk e351 (t := .boolean) (z' := (1 : Int32)) hrt (by simp) (hb hby at_140) (by decide) (by decide) rfl ⟨rfl, N351⟩
  · show Win p e below _ T346 (mkF mt 51 #[.val (.int len), .val (.int lo), .val (.int hi), .val (.int sel), .val (.int (2 : Int32)), .val (.int c0), .val (.int c1), .val (.int c2), .val (.int c3), .unset, .unset] [])
    refine Win.st ?_ (fun tq kq => XS.iload X346.here hx rfl (hb hby at_51) rfl kq)
    show Win p e below _ T346 (mkF mt 53 #[.val (.int len), .val (.int lo), .val (.int hi), .val (.int sel), .val (.int (2 : Int32)), .val (.int c0), .val (.int c1), .val (.int c2), .val (.int c3), .unset, .unset] [(.int (2 : Int32))])
    refine Win.st ?_ (fun tq kq => XS.iload X346.here hx rfl (hb hby at_53) rfl kq)
    show Win p e below _ T346 (mkF mt 55 #[.val (.int len), .val (.int lo), .val (.int hi), .val (.int sel), .val (.int (2 : Int32)), .val (.int c0), .val (.int c1), .val (.int c2), .val (.int c3), .unset, .unset] [(.int c0), (.int (2 : Int32))])
    refine Win.st ?_ (fun tq kq => XS.iload X346.here hx rfl (hb hby at_55) rfl kq)
    show Win p e below _ T346 (mkF mt 57 #[.val (.int len), .val (.int lo), .val (.int hi), .val (.int sel), .val (.int (2 : Int32)), .val (.int c0), .val (.int c1), .val (.int c2), .val (.int c3), .unset, .unset] [(.int c1), (.int c0), (.int (2 : Int32))])
    refine Win.st ?_ (fun tq kq => XS.iload X346.here hx rfl (hb hby at_57) rfl kq)
    show Win p e below _ T346 (mkF mt 59 #[.val (.int len), .val (.int lo), .val (.int hi), .val (.int sel), .val (.int (2 : Int32)), .val (.int c0), .val (.int c1), .val (.int c2), .val (.int c3), .unset, .unset] [(.int c2), (.int c1), (.int c0), (.int (2 : Int32))])
    refine Win.st ?_ (fun tq kq => XS.iload X346.here hx rfl (hb hby at_59) rfl kq)
    show Win p e below _ T346 (mkF mt 61 #[.val (.int len), .val (.int lo), .val (.int hi), .val (.int sel), .val (.int (2 : Int32)), .val (.int c0), .val (.int c1), .val (.int c2), .val (.int c3), .unset, .unset] [(.int c3), (.int c2), (.int c1), (.int c0), (.int (2 : Int32))])
    obtain ⟨v352, _, ⟨T352, L352, k352, n352⟩, -, X352, ⟨Lc352, hQ352, l352, y352, z352⟩, st352⟩ := Jvm.LawKit.callS X346 hx (y := (⟨"com/example/foldkey/foldkey/store/TokenHoldsSystemPinLaw", "make", "(ICCCC)Ljava/lang/String;"⟩ : MethodName)) hown (mvT hZ (hw _ (List.mem_of_getElem? (i := 5) rfl))) (mvT hZ (hw _ (List.mem_of_getElem? (i := 6) rfl))) (mvT hZ (hw _ (List.mem_of_getElem? (i := 3) rfl))) (mvT hZ (hw _ (List.mem_of_getElem? (i := 7) rfl))) (by decide) (backOf (W := 0) (rm_make_2 l Z a0 hw [] c0 c1 c2 c3 cs h0 n0 Z0 S0 hcs O hB0 hB1) hZ (hw _ (List.mem_of_getElem? (i := 7) rfl)) (hw _ (List.mem_of_getElem? (i := 3) rfl)) (by decide) (by decide)) (g := (mkF mt 61 #[.val (.int len), .val (.int lo), .val (.int hi), .val (.int sel), .val (.int (2 : Int32)), .val (.int c0), .val (.int c1), .val (.int c2), .val (.int c3), .unset, .unset] [(.int c3), (.int c2), (.int c1), (.int c0), (.int (2 : Int32))])) rfl (by rw [hml]; rfl) (argsL := [(.int (2 : Int32)), (.int c0), (.int c1), (.int c2), (.int c3)]) (rest := []) (lenOf pd_13 rfl) rfl (by show 2 * 0 + _ ≤ _; exact Nat.le_of_eq rfl) (hb hby at_61) (fun _ _ => ⟨rfl, e346, (by decide : 0 + 3 ≤ _), (by decide : 0 + 8 ≤ _)⟩)
    dsimp only [Pt.U, Pt.locs, Pt.cells, Pt.slots] at X352 l352 y352 z352 st352 hQ352
    subst y352 z352
    replace X352 : Stand p l e _ s mt args below meth cd T352 L352 3 8 := X352
    obtain ⟨h352, e352⟩ : ∃ z, T352.heap = z := ⟨_, rfl⟩
    rw [e352] at hQ352
    obtain ⟨rr, rfl, Nq352, z352, O352, tt, kt, E352, fv352, fc352, V352⟩ := hQ352
    have N352 : Fr n0 L352 := by rw [l352]; exact Fr.app N346 Nq352
    refine Win.st ?_ st352
    show Win p e below _ T352 (mkF mt 64 #[.val (.int len), .val (.int lo), .val (.int hi), .val (.int sel), .val (.int (2 : Int32)), .val (.int c0), .val (.int c1), .val (.int c2), .val (.int c3), .unset, .unset] [(.ref rr)])
    refine Win.st ?_ (fun tq kq => XS.astore X352.here hx rfl (hb hby at_64) rfl rfl (l' := #[.val (.int len), .val (.int lo), .val (.int hi), .val (.int sel), .val (.int (2 : Int32)), .val (.int c0), .val (.int c1), .val (.int c2), .val (.int c3), .val (.ref rr), .unset]) rfl kq)
    show Win p e below _ T352 (mkF mt 66 #[.val (.int len), .val (.int lo), .val (.int hi), .val (.int sel), .val (.int (2 : Int32)), .val (.int c0), .val (.int c1), .val (.int c2), .val (.int c3), .val (.ref rr), .unset] [])
    refine Win.st ?_ (fun tq kq => XS.iload X352.here hx rfl (hb hby at_66) rfl kq)
    show Win p e below _ T352 (mkF mt 68 #[.val (.int len), .val (.int lo), .val (.int hi), .val (.int sel), .val (.int (2 : Int32)), .val (.int c0), .val (.int c1), .val (.int c2), .val (.int c3), .val (.ref rr), .unset] [(.int (2 : Int32))])
    refine Win.st ?_ (fun tq kq => XS.iconst X352.here hx rfl (hb hby at_68) kq)
    show Win p e below _ T352 (mkF mt 69 #[.val (.int len), .val (.int lo), .val (.int hi), .val (.int sel), .val (.int (2 : Int32)), .val (.int c0), .val (.int c1), .val (.int c2), .val (.int c3), .val (.ref rr), .unset] [(.int (1 : Int32)), (.int (2 : Int32))])
    refine Win.st ?_ (fun tq kq => XS.icmpNo X352.here hx rfl (hb hby at_69) rfl (flt (by decide : ¬ ((2 : Int32) < (1 : Int32)))).1 kq)
    show Win p e below _ T352 (mkF mt 72 #[.val (.int len), .val (.int lo), .val (.int hi), .val (.int sel), .val (.int (2 : Int32)), .val (.int c0), .val (.int c1), .val (.int c2), .val (.int c3), .val (.ref rr), .unset] [])
    refine Win.st ?_ (fun tq kq => XS.iload X352.here hx rfl (hb hby at_72) rfl kq)
    show Win p e below _ T352 (mkF mt 74 #[.val (.int len), .val (.int lo), .val (.int hi), .val (.int sel), .val (.int (2 : Int32)), .val (.int c0), .val (.int c1), .val (.int c2), .val (.int c3), .val (.ref rr), .unset] [(.int c0)])
    refine Win.st ?_ (fun tq kq => XS.bipush X352.here hx rfl (hb hby at_74) kq)
    show Win p e below _ T352 (mkF mt 76 #[.val (.int len), .val (.int lo), .val (.int hi), .val (.int sel), .val (.int (2 : Int32)), .val (.int c0), .val (.int c1), .val (.int c2), .val (.int c3), .val (.ref rr), .unset] [(.int (124 : Int32)), (.int c0)])
    by_cases hc76 : c0 = (124 : Int32)
    · refine Win.st ?_ (fun tq kq => XS.icmpYes X352.here hx rfl (pc0 := 76) (pc' := 122) rfl (hb hby at_76) rfl (teq hc76).1 (by decide) (by decide) kq)
      show Win p e below _ T352 (mkF mt 122 #[.val (.int len), .val (.int lo), .val (.int hi), .val (.int sel), .val (.int (2 : Int32)), .val (.int c0), .val (.int c1), .val (.int c2), .val (.int c3), .val (.ref rr), .unset] [])
      refine Win.st ?_ (fun tq kq => XS.iconst X352.here hx rfl (hb hby at_122) kq)
      show Win p e below _ T352 (mkF mt 123 #[.val (.int len), .val (.int lo), .val (.int hi), .val (.int sel), .val (.int (2 : Int32)), .val (.int c0), .val (.int c1), .val (.int c2), .val (.int c3), .val (.ref rr), .unset] [(.int (0 : Int32))])
      refine Win.st ?_ (fun tq kq => XS.istore X352.here hx rfl (hb hby at_123) rfl (l' := #[.val (.int len), .val (.int lo), .val (.int hi), .val (.int sel), .val (.int (2 : Int32)), .val (.int c0), .val (.int c1), .val (.int c2), .val (.int c3), .val (.ref rr), .val (.int (0 : Int32))]) rfl kq)
      show Win p e below _ T352 (mkF mt 125 #[.val (.int len), .val (.int lo), .val (.int hi), .val (.int sel), .val (.int (2 : Int32)), .val (.int c0), .val (.int c1), .val (.int c2), .val (.int c3), .val (.ref rr), .val (.int (0 : Int32))] [])
      refine Win.st ?_ (fun tq kq => XS.aload X352.here hx rfl (hb hby at_125) rfl rfl kq)
      show Win p e below _ T352 (mkF mt 127 #[.val (.int len), .val (.int lo), .val (.int hi), .val (.int sel), .val (.int (2 : Int32)), .val (.int c0), .val (.int c1), .val (.int c2), .val (.int c3), .val (.ref rr), .val (.int (0 : Int32))] [(.ref rr)])
      obtain ⟨v353, _, ⟨T353, L353, k353, n353⟩, -, X353, ⟨Lc353, hQ353, l353, y353, z353⟩, st353⟩ := Jvm.LawKit.callS X352 hx (y := (⟨"com/example/foldkey/foldkey/store/Token", "holdsSystem", "(Ljava/lang/String;)Z"⟩ : MethodName)) hown (mvT hZ (hw _ (List.mem_of_getElem? (i := 30) rfl))) (mvT hZ (hw _ (List.mem_of_getElem? (i := 31) rfl))) (mvT hZ (hw _ (List.mem_of_getElem? (i := 32) rfl))) (mvT hZ (hw _ (List.mem_of_getElem? (i := 33) rfl))) (by decide) (backOf (W := 0) (rm_hsy_2 l Z a0 hw [] rr tt kt cs c0 c1 h352 n0 z352 E352 fv352 fc352 V352 S0 hcs O352 hB0 hB1) hZ (hw _ (List.mem_of_getElem? (i := 33) rfl)) (hw _ (List.mem_of_getElem? (i := 32) rfl)) (by decide) (by decide)) (g := (mkF mt 127 #[.val (.int len), .val (.int lo), .val (.int hi), .val (.int sel), .val (.int (2 : Int32)), .val (.int c0), .val (.int c1), .val (.int c2), .val (.int c3), .val (.ref rr), .val (.int (0 : Int32))] [(.ref rr)])) rfl (by rw [hml]; rfl) (argsL := [(.ref rr)]) (rest := []) (lenOf pd_14 rfl) rfl (by show 2 * 0 + _ ≤ _; exact Nat.le_of_eq rfl) (hb hby at_127) (fun _ _ => ⟨rfl, e352, (by decide : 3 + 0 ≤ _), (by decide : 8 + 0 ≤ _)⟩)
      dsimp only [Pt.U, Pt.locs, Pt.cells, Pt.slots] at X353 l353 y353 z353 st353 hQ353
      subst y353 z353
      replace X353 : Stand p l e _ s mt args below meth cd T353 L353 3 8 := X353
      obtain ⟨h353, e353⟩ : ∃ z, T353.heap = z := ⟨_, rfl⟩
      rw [e353] at hQ353
      obtain ⟨qq, rfl, Nq353, eh353, hy, hno⟩ := hQ353
      have N353 : Fr n0 L353 := by rw [l353]; exact Fr.app N352 Nq353
      rw [eh353] at e353
      refine Win.st ?_ st353
      show Win p e below _ T353 (mkF mt 130 #[.val (.int len), .val (.int lo), .val (.int hi), .val (.int sel), .val (.int (2 : Int32)), .val (.int c0), .val (.int c1), .val (.int c2), .val (.int c3), .val (.ref rr), .val (.int (0 : Int32))] [(.int qq)])
      refine Win.st ?_ (fun tq kq => XS.iload X353.here hx rfl (hb hby at_130) rfl kq)
      show Win p e below _ T353 (mkF mt 132 #[.val (.int len), .val (.int lo), .val (.int hi), .val (.int sel), .val (.int (2 : Int32)), .val (.int c0), .val (.int c1), .val (.int c2), .val (.int c3), .val (.ref rr), .val (.int (0 : Int32))] [(.int (0 : Int32)), (.int qq)])
      refine Win.st ?_ (fun tq kq => XS.icmpNo X353.here hx rfl (hb hby at_132) rfl (teq (hno fun q => q.1 hc76)).2 kq)
      show Win p e below _ T353 (mkF mt 135 #[.val (.int len), .val (.int lo), .val (.int hi), .val (.int sel), .val (.int (2 : Int32)), .val (.int c0), .val (.int c1), .val (.int c2), .val (.int c3), .val (.ref rr), .val (.int (0 : Int32))] [])
      refine Win.st ?_ (fun tq kq => XS.iconst X353.here hx rfl (hb hby at_135) kq)
      show Win p e below _ T353 (mkF mt 136 #[.val (.int len), .val (.int lo), .val (.int hi), .val (.int sel), .val (.int (2 : Int32)), .val (.int c0), .val (.int c1), .val (.int c2), .val (.int c3), .val (.ref rr), .val (.int (0 : Int32))] [(.int (1 : Int32))])
      refine Win.st ?_ (fun tq kq => XS.goto X353.here hx rfl (pc0 := 136) (pc' := 140) rfl (hb hby at_136) (by decide) (by decide) kq)
      show Win p e below _ T353 (mkF mt 140 #[.val (.int len), .val (.int lo), .val (.int hi), .val (.int sel), .val (.int (2 : Int32)), .val (.int c0), .val (.int c1), .val (.int c2), .val (.int c3), .val (.ref rr), .val (.int (0 : Int32))] [(.int (1 : Int32))])
      exact Win.retNW (s := s) (vm₁ := s.vm) X353 (State.WarmedH.since (State.WarmedH.refl s) 0) (Nat.zero_le _) hx hlk e353 (t := .boolean) (z' := (1 : Int32)) hrt (by simp) (hb hby at_140) (by decide) (by decide) rfl ⟨rfl, N353⟩
    · refine Win.st ?_ (fun tq kq => XS.icmpNo X352.here hx rfl (hb hby at_76) rfl (feq hc76).1 kq)
      show Win p e below _ T352 (mkF mt 79 #[.val (.int len), .val (.int lo), .val (.int hi), .val (.int sel), .val (.int (2 : Int32)), .val (.int c0), .val (.int c1), .val (.int c2), .val (.int c3), .val (.ref rr), .unset] [])
      refine Win.st ?_ (fun tq kq => XS.iload X352.here hx rfl (hb hby at_79) rfl kq)
      show Win p e below _ T352 (mkF mt 81 #[.val (.int len), .val (.int lo), .val (.int hi), .val (.int sel), .val (.int (2 : Int32)), .val (.int c0), .val (.int c1), .val (.int c2), .val (.int c3), .val (.ref rr), .unset] [(.int (2 : Int32))])
      refine Win.st ?_ (fun tq kq => XS.iconst X352.here hx rfl (hb hby at_81) kq)
      show Win p e below _ T352 (mkF mt 82 #[.val (.int len), .val (.int lo), .val (.int hi), .val (.int sel), .val (.int (2 : Int32)), .val (.int c0), .val (.int c1), .val (.int c2), .val (.int c3), .val (.ref rr), .unset] [(.int (2 : Int32)), (.int (2 : Int32))])
      refine Win.st ?_ (fun tq kq => XS.icmpNo X352.here hx rfl (hb hby at_82) rfl (flt (Int32.lt_irrefl)).1 kq)
      show Win p e below _ T352 (mkF mt 85 #[.val (.int len), .val (.int lo), .val (.int hi), .val (.int sel), .val (.int (2 : Int32)), .val (.int c0), .val (.int c1), .val (.int c2), .val (.int c3), .val (.ref rr), .unset] [])
      refine Win.st ?_ (fun tq kq => XS.iload X352.here hx rfl (hb hby at_85) rfl kq)
      show Win p e below _ T352 (mkF mt 87 #[.val (.int len), .val (.int lo), .val (.int hi), .val (.int sel), .val (.int (2 : Int32)), .val (.int c0), .val (.int c1), .val (.int c2), .val (.int c3), .val (.ref rr), .unset] [(.int c1)])
      refine Win.st ?_ (fun tq kq => XS.bipush X352.here hx rfl (hb hby at_87) kq)
      show Win p e below _ T352 (mkF mt 89 #[.val (.int len), .val (.int lo), .val (.int hi), .val (.int sel), .val (.int (2 : Int32)), .val (.int c0), .val (.int c1), .val (.int c2), .val (.int c3), .val (.ref rr), .unset] [(.int (124 : Int32)), (.int c1)])
      by_cases hc89 : c1 = (124 : Int32)
      · refine Win.st ?_ (fun tq kq => XS.icmpYes X352.here hx rfl (pc0 := 89) (pc' := 122) rfl (hb hby at_89) rfl (teq hc89).1 (by decide) (by decide) kq)
        show Win p e below _ T352 (mkF mt 122 #[.val (.int len), .val (.int lo), .val (.int hi), .val (.int sel), .val (.int (2 : Int32)), .val (.int c0), .val (.int c1), .val (.int c2), .val (.int c3), .val (.ref rr), .unset] [])
        refine Win.st ?_ (fun tq kq => XS.iconst X352.here hx rfl (hb hby at_122) kq)
        show Win p e below _ T352 (mkF mt 123 #[.val (.int len), .val (.int lo), .val (.int hi), .val (.int sel), .val (.int (2 : Int32)), .val (.int c0), .val (.int c1), .val (.int c2), .val (.int c3), .val (.ref rr), .unset] [(.int (0 : Int32))])
        refine Win.st ?_ (fun tq kq => XS.istore X352.here hx rfl (hb hby at_123) rfl (l' := #[.val (.int len), .val (.int lo), .val (.int hi), .val (.int sel), .val (.int (2 : Int32)), .val (.int c0), .val (.int c1), .val (.int c2), .val (.int c3), .val (.ref rr), .val (.int (0 : Int32))]) rfl kq)
        show Win p e below _ T352 (mkF mt 125 #[.val (.int len), .val (.int lo), .val (.int hi), .val (.int sel), .val (.int (2 : Int32)), .val (.int c0), .val (.int c1), .val (.int c2), .val (.int c3), .val (.ref rr), .val (.int (0 : Int32))] [])
        refine Win.st ?_ (fun tq kq => XS.aload X352.here hx rfl (hb hby at_125) rfl rfl kq)
        show Win p e below _ T352 (mkF mt 127 #[.val (.int len), .val (.int lo), .val (.int hi), .val (.int sel), .val (.int (2 : Int32)), .val (.int c0), .val (.int c1), .val (.int c2), .val (.int c3), .val (.ref rr), .val (.int (0 : Int32))] [(.ref rr)])
        obtain ⟨v354, _, ⟨T354, L354, k354, n354⟩, -, X354, ⟨Lc354, hQ354, l354, y354, z354⟩, st354⟩ := Jvm.LawKit.callS X352 hx (y := (⟨"com/example/foldkey/foldkey/store/Token", "holdsSystem", "(Ljava/lang/String;)Z"⟩ : MethodName)) hown (mvT hZ (hw _ (List.mem_of_getElem? (i := 30) rfl))) (mvT hZ (hw _ (List.mem_of_getElem? (i := 31) rfl))) (mvT hZ (hw _ (List.mem_of_getElem? (i := 32) rfl))) (mvT hZ (hw _ (List.mem_of_getElem? (i := 33) rfl))) (by decide) (backOf (W := 0) (rm_hsy_2 l Z a0 hw [] rr tt kt cs c0 c1 h352 n0 z352 E352 fv352 fc352 V352 S0 hcs O352 hB0 hB1) hZ (hw _ (List.mem_of_getElem? (i := 33) rfl)) (hw _ (List.mem_of_getElem? (i := 32) rfl)) (by decide) (by decide)) (g := (mkF mt 127 #[.val (.int len), .val (.int lo), .val (.int hi), .val (.int sel), .val (.int (2 : Int32)), .val (.int c0), .val (.int c1), .val (.int c2), .val (.int c3), .val (.ref rr), .val (.int (0 : Int32))] [(.ref rr)])) rfl (by rw [hml]; rfl) (argsL := [(.ref rr)]) (rest := []) (lenOf pd_14 rfl) rfl (by show 2 * 0 + _ ≤ _; exact Nat.le_of_eq rfl) (hb hby at_127) (fun _ _ => ⟨rfl, e352, (by decide : 3 + 0 ≤ _), (by decide : 8 + 0 ≤ _)⟩)
        dsimp only [Pt.U, Pt.locs, Pt.cells, Pt.slots] at X354 l354 y354 z354 st354 hQ354
        subst y354 z354
        replace X354 : Stand p l e _ s mt args below meth cd T354 L354 3 8 := X354
        obtain ⟨h354, e354⟩ : ∃ z, T354.heap = z := ⟨_, rfl⟩
        rw [e354] at hQ354
        obtain ⟨qq, rfl, Nq354, eh354, hy, hno⟩ := hQ354
        have N354 : Fr n0 L354 := by rw [l354]; exact Fr.app N352 Nq354
        rw [eh354] at e354
        refine Win.st ?_ st354
        show Win p e below _ T354 (mkF mt 130 #[.val (.int len), .val (.int lo), .val (.int hi), .val (.int sel), .val (.int (2 : Int32)), .val (.int c0), .val (.int c1), .val (.int c2), .val (.int c3), .val (.ref rr), .val (.int (0 : Int32))] [(.int qq)])
        refine Win.st ?_ (fun tq kq => XS.iload X354.here hx rfl (hb hby at_130) rfl kq)
        show Win p e below _ T354 (mkF mt 132 #[.val (.int len), .val (.int lo), .val (.int hi), .val (.int sel), .val (.int (2 : Int32)), .val (.int c0), .val (.int c1), .val (.int c2), .val (.int c3), .val (.ref rr), .val (.int (0 : Int32))] [(.int (0 : Int32)), (.int qq)])
        refine Win.st ?_ (fun tq kq => XS.icmpNo X354.here hx rfl (hb hby at_132) rfl (teq (hno fun q => q.2 hc89)).2 kq)
        show Win p e below _ T354 (mkF mt 135 #[.val (.int len), .val (.int lo), .val (.int hi), .val (.int sel), .val (.int (2 : Int32)), .val (.int c0), .val (.int c1), .val (.int c2), .val (.int c3), .val (.ref rr), .val (.int (0 : Int32))] [])
        refine Win.st ?_ (fun tq kq => XS.iconst X354.here hx rfl (hb hby at_135) kq)
        show Win p e below _ T354 (mkF mt 136 #[.val (.int len), .val (.int lo), .val (.int hi), .val (.int sel), .val (.int (2 : Int32)), .val (.int c0), .val (.int c1), .val (.int c2), .val (.int c3), .val (.ref rr), .val (.int (0 : Int32))] [(.int (1 : Int32))])
        refine Win.st ?_ (fun tq kq => XS.goto X354.here hx rfl (pc0 := 136) (pc' := 140) rfl (hb hby at_136) (by decide) (by decide) kq)
        show Win p e below _ T354 (mkF mt 140 #[.val (.int len), .val (.int lo), .val (.int hi), .val (.int sel), .val (.int (2 : Int32)), .val (.int c0), .val (.int c1), .val (.int c2), .val (.int c3), .val (.ref rr), .val (.int (0 : Int32))] [(.int (1 : Int32))])
        exact Win.retNW (s := s) (vm₁ := s.vm) X354 (State.WarmedH.since (State.WarmedH.refl s) 0) (Nat.zero_le _) hx hlk e354 (t := .boolean) (z' := (1 : Int32)) hrt (by simp) (hb hby at_140) (by decide) (by decide) rfl ⟨rfl, N354⟩
      · refine Win.st ?_ (fun tq kq => XS.icmpNo X352.here hx rfl (hb hby at_89) rfl (feq hc89).1 kq)
        show Win p e below _ T352 (mkF mt 92 #[.val (.int len), .val (.int lo), .val (.int hi), .val (.int sel), .val (.int (2 : Int32)), .val (.int c0), .val (.int c1), .val (.int c2), .val (.int c3), .val (.ref rr), .unset] [])
        refine Win.st ?_ (fun tq kq => XS.iload X352.here hx rfl (hb hby at_92) rfl kq)
        show Win p e below _ T352 (mkF mt 94 #[.val (.int len), .val (.int lo), .val (.int hi), .val (.int sel), .val (.int (2 : Int32)), .val (.int c0), .val (.int c1), .val (.int c2), .val (.int c3), .val (.ref rr), .unset] [(.int (2 : Int32))])
        refine Win.st ?_ (fun tq kq => XS.iconst X352.here hx rfl (hb hby at_94) kq)
        show Win p e below _ T352 (mkF mt 95 #[.val (.int len), .val (.int lo), .val (.int hi), .val (.int sel), .val (.int (2 : Int32)), .val (.int c0), .val (.int c1), .val (.int c2), .val (.int c3), .val (.ref rr), .unset] [(.int (3 : Int32)), (.int (2 : Int32))])
        refine Win.st ?_ (fun tq kq => XS.icmpYes X352.here hx rfl (pc0 := 95) (pc' := 105) rfl (hb hby at_95) rfl (tlt (by decide : (2 : Int32) < (3 : Int32))).1 (by decide) (by decide) kq)
        show Win p e below _ T352 (mkF mt 105 #[.val (.int len), .val (.int lo), .val (.int hi), .val (.int sel), .val (.int (2 : Int32)), .val (.int c0), .val (.int c1), .val (.int c2), .val (.int c3), .val (.ref rr), .unset] [])
        refine Win.st ?_ (fun tq kq => XS.iload X352.here hx rfl (hb hby at_105) rfl kq)
        show Win p e below _ T352 (mkF mt 107 #[.val (.int len), .val (.int lo), .val (.int hi), .val (.int sel), .val (.int (2 : Int32)), .val (.int c0), .val (.int c1), .val (.int c2), .val (.int c3), .val (.ref rr), .unset] [(.int (2 : Int32))])
        refine Win.st ?_ (fun tq kq => XS.iconst X352.here hx rfl (hb hby at_107) kq)
        show Win p e below _ T352 (mkF mt 108 #[.val (.int len), .val (.int lo), .val (.int hi), .val (.int sel), .val (.int (2 : Int32)), .val (.int c0), .val (.int c1), .val (.int c2), .val (.int c3), .val (.ref rr), .unset] [(.int (4 : Int32)), (.int (2 : Int32))])
        refine Win.st ?_ (fun tq kq => XS.icmpYes X352.here hx rfl (pc0 := 108) (pc' := 118) rfl (hb hby at_108) rfl (tlt (by decide : (2 : Int32) < (4 : Int32))).1 (by decide) (by decide) kq)
        show Win p e below _ T352 (mkF mt 118 #[.val (.int len), .val (.int lo), .val (.int hi), .val (.int sel), .val (.int (2 : Int32)), .val (.int c0), .val (.int c1), .val (.int c2), .val (.int c3), .val (.ref rr), .unset] [])
        refine Win.st ?_ (fun tq kq => XS.iconst X352.here hx rfl (hb hby at_118) kq)
        show Win p e below _ T352 (mkF mt 119 #[.val (.int len), .val (.int lo), .val (.int hi), .val (.int sel), .val (.int (2 : Int32)), .val (.int c0), .val (.int c1), .val (.int c2), .val (.int c3), .val (.ref rr), .unset] [(.int (1 : Int32))])
        refine Win.st ?_ (fun tq kq => XS.goto X352.here hx rfl (pc0 := 119) (pc' := 123) rfl (hb hby at_119) (by decide) (by decide) kq)
        show Win p e below _ T352 (mkF mt 123 #[.val (.int len), .val (.int lo), .val (.int hi), .val (.int sel), .val (.int (2 : Int32)), .val (.int c0), .val (.int c1), .val (.int c2), .val (.int c3), .val (.ref rr), .unset] [(.int (1 : Int32))])
        refine Win.st ?_ (fun tq kq => XS.istore X352.here hx rfl (hb hby at_123) rfl (l' := #[.val (.int len), .val (.int lo), .val (.int hi), .val (.int sel), .val (.int (2 : Int32)), .val (.int c0), .val (.int c1), .val (.int c2), .val (.int c3), .val (.ref rr), .val (.int (1 : Int32))]) rfl kq)
        show Win p e below _ T352 (mkF mt 125 #[.val (.int len), .val (.int lo), .val (.int hi), .val (.int sel), .val (.int (2 : Int32)), .val (.int c0), .val (.int c1), .val (.int c2), .val (.int c3), .val (.ref rr), .val (.int (1 : Int32))] [])
        refine Win.st ?_ (fun tq kq => XS.aload X352.here hx rfl (hb hby at_125) rfl rfl kq)
        show Win p e below _ T352 (mkF mt 127 #[.val (.int len), .val (.int lo), .val (.int hi), .val (.int sel), .val (.int (2 : Int32)), .val (.int c0), .val (.int c1), .val (.int c2), .val (.int c3), .val (.ref rr), .val (.int (1 : Int32))] [(.ref rr)])
        obtain ⟨v355, _, ⟨T355, L355, k355, n355⟩, -, X355, ⟨Lc355, hQ355, l355, y355, z355⟩, st355⟩ := Jvm.LawKit.callS X352 hx (y := (⟨"com/example/foldkey/foldkey/store/Token", "holdsSystem", "(Ljava/lang/String;)Z"⟩ : MethodName)) hown (mvT hZ (hw _ (List.mem_of_getElem? (i := 30) rfl))) (mvT hZ (hw _ (List.mem_of_getElem? (i := 31) rfl))) (mvT hZ (hw _ (List.mem_of_getElem? (i := 32) rfl))) (mvT hZ (hw _ (List.mem_of_getElem? (i := 33) rfl))) (by decide) (backOf (W := 0) (rm_hsy_2 l Z a0 hw [] rr tt kt cs c0 c1 h352 n0 z352 E352 fv352 fc352 V352 S0 hcs O352 hB0 hB1) hZ (hw _ (List.mem_of_getElem? (i := 33) rfl)) (hw _ (List.mem_of_getElem? (i := 32) rfl)) (by decide) (by decide)) (g := (mkF mt 127 #[.val (.int len), .val (.int lo), .val (.int hi), .val (.int sel), .val (.int (2 : Int32)), .val (.int c0), .val (.int c1), .val (.int c2), .val (.int c3), .val (.ref rr), .val (.int (1 : Int32))] [(.ref rr)])) rfl (by rw [hml]; rfl) (argsL := [(.ref rr)]) (rest := []) (lenOf pd_14 rfl) rfl (by show 2 * 0 + _ ≤ _; exact Nat.le_of_eq rfl) (hb hby at_127) (fun _ _ => ⟨rfl, e352, (by decide : 3 + 0 ≤ _), (by decide : 8 + 0 ≤ _)⟩)
        dsimp only [Pt.U, Pt.locs, Pt.cells, Pt.slots] at X355 l355 y355 z355 st355 hQ355
        subst y355 z355
        replace X355 : Stand p l e _ s mt args below meth cd T355 L355 3 8 := X355
        obtain ⟨h355, e355⟩ : ∃ z, T355.heap = z := ⟨_, rfl⟩
        rw [e355] at hQ355
        obtain ⟨qq, rfl, Nq355, eh355, hy, hno⟩ := hQ355
        have N355 : Fr n0 L355 := by rw [l355]; exact Fr.app N352 Nq355
        rw [eh355] at e355
        refine Win.st ?_ st355
        show Win p e below _ T355 (mkF mt 130 #[.val (.int len), .val (.int lo), .val (.int hi), .val (.int sel), .val (.int (2 : Int32)), .val (.int c0), .val (.int c1), .val (.int c2), .val (.int c3), .val (.ref rr), .val (.int (1 : Int32))] [(.int qq)])
        refine Win.st ?_ (fun tq kq => XS.iload X355.here hx rfl (hb hby at_130) rfl kq)
        show Win p e below _ T355 (mkF mt 132 #[.val (.int len), .val (.int lo), .val (.int hi), .val (.int sel), .val (.int (2 : Int32)), .val (.int c0), .val (.int c1), .val (.int c2), .val (.int c3), .val (.ref rr), .val (.int (1 : Int32))] [(.int (1 : Int32)), (.int qq)])
        refine Win.st ?_ (fun tq kq => XS.icmpNo X355.here hx rfl (hb hby at_132) rfl (teq (hy ⟨hc76, hc89⟩)).2 kq)
        show Win p e below _ T355 (mkF mt 135 #[.val (.int len), .val (.int lo), .val (.int hi), .val (.int sel), .val (.int (2 : Int32)), .val (.int c0), .val (.int c1), .val (.int c2), .val (.int c3), .val (.ref rr), .val (.int (1 : Int32))] [])
        refine Win.st ?_ (fun tq kq => XS.iconst X355.here hx rfl (hb hby at_135) kq)
        show Win p e below _ T355 (mkF mt 136 #[.val (.int len), .val (.int lo), .val (.int hi), .val (.int sel), .val (.int (2 : Int32)), .val (.int c0), .val (.int c1), .val (.int c2), .val (.int c3), .val (.ref rr), .val (.int (1 : Int32))] [(.int (1 : Int32))])
        refine Win.st ?_ (fun tq kq => XS.goto X355.here hx rfl (pc0 := 136) (pc' := 140) rfl (hb hby at_136) (by decide) (by decide) kq)
        show Win p e below _ T355 (mkF mt 140 #[.val (.int len), .val (.int lo), .val (.int hi), .val (.int sel), .val (.int (2 : Int32)), .val (.int c0), .val (.int c1), .val (.int c2), .val (.int c3), .val (.ref rr), .val (.int (1 : Int32))] [(.int (1 : Int32))])
        exact Win.retNW (s := s) (vm₁ := s.vm) X355 (State.WarmedH.since (State.WarmedH.refl s) 0) (Nat.zero_le _) hx hlk e355 (t := .boolean) (z' := (1 : Int32)) hrt (by simp) (hb hby at_140) (by decide) (by decide) rfl ⟨rfl, N355⟩
  · show Win p e below _ T346 (mkF mt 51 #[.val (.int len), .val (.int lo), .val (.int hi), .val (.int sel), .val (.int (3 : Int32)), .val (.int c0), .val (.int c1), .val (.int c2), .val (.int c3), .unset, .unset] [])
    refine Win.st ?_ (fun tq kq => XS.iload X346.here hx rfl (hb hby at_51) rfl kq)
    show Win p e below _ T346 (mkF mt 53 #[.val (.int len), .val (.int lo), .val (.int hi), .val (.int sel), .val (.int (3 : Int32)), .val (.int c0), .val (.int c1), .val (.int c2), .val (.int c3), .unset, .unset] [(.int (3 : Int32))])
    refine Win.st ?_ (fun tq kq => XS.iload X346.here hx rfl (hb hby at_53) rfl kq)
    show Win p e below _ T346 (mkF mt 55 #[.val (.int len), .val (.int lo), .val (.int hi), .val (.int sel), .val (.int (3 : Int32)), .val (.int c0), .val (.int c1), .val (.int c2), .val (.int c3), .unset, .unset] [(.int c0), (.int (3 : Int32))])
    refine Win.st ?_ (fun tq kq => XS.iload X346.here hx rfl (hb hby at_55) rfl kq)
    show Win p e below _ T346 (mkF mt 57 #[.val (.int len), .val (.int lo), .val (.int hi), .val (.int sel), .val (.int (3 : Int32)), .val (.int c0), .val (.int c1), .val (.int c2), .val (.int c3), .unset, .unset] [(.int c1), (.int c0), (.int (3 : Int32))])
    refine Win.st ?_ (fun tq kq => XS.iload X346.here hx rfl (hb hby at_57) rfl kq)
    show Win p e below _ T346 (mkF mt 59 #[.val (.int len), .val (.int lo), .val (.int hi), .val (.int sel), .val (.int (3 : Int32)), .val (.int c0), .val (.int c1), .val (.int c2), .val (.int c3), .unset, .unset] [(.int c2), (.int c1), (.int c0), (.int (3 : Int32))])
    refine Win.st ?_ (fun tq kq => XS.iload X346.here hx rfl (hb hby at_59) rfl kq)
    show Win p e below _ T346 (mkF mt 61 #[.val (.int len), .val (.int lo), .val (.int hi), .val (.int sel), .val (.int (3 : Int32)), .val (.int c0), .val (.int c1), .val (.int c2), .val (.int c3), .unset, .unset] [(.int c3), (.int c2), (.int c1), (.int c0), (.int (3 : Int32))])
    obtain ⟨v356, _, ⟨T356, L356, k356, n356⟩, -, X356, ⟨Lc356, hQ356, l356, y356, z356⟩, st356⟩ := Jvm.LawKit.callS X346 hx (y := (⟨"com/example/foldkey/foldkey/store/TokenHoldsSystemPinLaw", "make", "(ICCCC)Ljava/lang/String;"⟩ : MethodName)) hown (mvT hZ (hw _ (List.mem_of_getElem? (i := 5) rfl))) (mvT hZ (hw _ (List.mem_of_getElem? (i := 6) rfl))) (mvT hZ (hw _ (List.mem_of_getElem? (i := 3) rfl))) (mvT hZ (hw _ (List.mem_of_getElem? (i := 7) rfl))) (by decide) (backOf (W := 0) (rm_make_3 l Z a0 hw [] c0 c1 c2 c3 cs h0 n0 Z0 S0 hcs O hB0 hB1 hB2) hZ (hw _ (List.mem_of_getElem? (i := 7) rfl)) (hw _ (List.mem_of_getElem? (i := 3) rfl)) (by decide) (by decide)) (g := (mkF mt 61 #[.val (.int len), .val (.int lo), .val (.int hi), .val (.int sel), .val (.int (3 : Int32)), .val (.int c0), .val (.int c1), .val (.int c2), .val (.int c3), .unset, .unset] [(.int c3), (.int c2), (.int c1), (.int c0), (.int (3 : Int32))])) rfl (by rw [hml]; rfl) (argsL := [(.int (3 : Int32)), (.int c0), (.int c1), (.int c2), (.int c3)]) (rest := []) (lenOf pd_13 rfl) rfl (by show 2 * 0 + _ ≤ _; exact Nat.le_of_eq rfl) (hb hby at_61) (fun _ _ => ⟨rfl, e346, (by decide : 0 + 3 ≤ _), (by decide : 0 + 10 ≤ _)⟩)
    dsimp only [Pt.U, Pt.locs, Pt.cells, Pt.slots] at X356 l356 y356 z356 st356 hQ356
    subst y356 z356
    replace X356 : Stand p l e _ s mt args below meth cd T356 L356 3 10 := X356
    obtain ⟨h356, e356⟩ : ∃ z, T356.heap = z := ⟨_, rfl⟩
    rw [e356] at hQ356
    obtain ⟨rr, rfl, Nq356, z356, O356, tt, kt, E356, fv356, fc356, V356⟩ := hQ356
    have N356 : Fr n0 L356 := by rw [l356]; exact Fr.app N346 Nq356
    refine Win.st ?_ st356
    show Win p e below _ T356 (mkF mt 64 #[.val (.int len), .val (.int lo), .val (.int hi), .val (.int sel), .val (.int (3 : Int32)), .val (.int c0), .val (.int c1), .val (.int c2), .val (.int c3), .unset, .unset] [(.ref rr)])
    refine Win.st ?_ (fun tq kq => XS.astore X356.here hx rfl (hb hby at_64) rfl rfl (l' := #[.val (.int len), .val (.int lo), .val (.int hi), .val (.int sel), .val (.int (3 : Int32)), .val (.int c0), .val (.int c1), .val (.int c2), .val (.int c3), .val (.ref rr), .unset]) rfl kq)
    show Win p e below _ T356 (mkF mt 66 #[.val (.int len), .val (.int lo), .val (.int hi), .val (.int sel), .val (.int (3 : Int32)), .val (.int c0), .val (.int c1), .val (.int c2), .val (.int c3), .val (.ref rr), .unset] [])
    refine Win.st ?_ (fun tq kq => XS.iload X356.here hx rfl (hb hby at_66) rfl kq)
    show Win p e below _ T356 (mkF mt 68 #[.val (.int len), .val (.int lo), .val (.int hi), .val (.int sel), .val (.int (3 : Int32)), .val (.int c0), .val (.int c1), .val (.int c2), .val (.int c3), .val (.ref rr), .unset] [(.int (3 : Int32))])
    refine Win.st ?_ (fun tq kq => XS.iconst X356.here hx rfl (hb hby at_68) kq)
    show Win p e below _ T356 (mkF mt 69 #[.val (.int len), .val (.int lo), .val (.int hi), .val (.int sel), .val (.int (3 : Int32)), .val (.int c0), .val (.int c1), .val (.int c2), .val (.int c3), .val (.ref rr), .unset] [(.int (1 : Int32)), (.int (3 : Int32))])
    refine Win.st ?_ (fun tq kq => XS.icmpNo X356.here hx rfl (hb hby at_69) rfl (flt (by decide : ¬ ((3 : Int32) < (1 : Int32)))).1 kq)
    show Win p e below _ T356 (mkF mt 72 #[.val (.int len), .val (.int lo), .val (.int hi), .val (.int sel), .val (.int (3 : Int32)), .val (.int c0), .val (.int c1), .val (.int c2), .val (.int c3), .val (.ref rr), .unset] [])
    refine Win.st ?_ (fun tq kq => XS.iload X356.here hx rfl (hb hby at_72) rfl kq)
    show Win p e below _ T356 (mkF mt 74 #[.val (.int len), .val (.int lo), .val (.int hi), .val (.int sel), .val (.int (3 : Int32)), .val (.int c0), .val (.int c1), .val (.int c2), .val (.int c3), .val (.ref rr), .unset] [(.int c0)])
    refine Win.st ?_ (fun tq kq => XS.bipush X356.here hx rfl (hb hby at_74) kq)
    show Win p e below _ T356 (mkF mt 76 #[.val (.int len), .val (.int lo), .val (.int hi), .val (.int sel), .val (.int (3 : Int32)), .val (.int c0), .val (.int c1), .val (.int c2), .val (.int c3), .val (.ref rr), .unset] [(.int (124 : Int32)), (.int c0)])
    by_cases hc76 : c0 = (124 : Int32)
    · refine Win.st ?_ (fun tq kq => XS.icmpYes X356.here hx rfl (pc0 := 76) (pc' := 122) rfl (hb hby at_76) rfl (teq hc76).1 (by decide) (by decide) kq)
      show Win p e below _ T356 (mkF mt 122 #[.val (.int len), .val (.int lo), .val (.int hi), .val (.int sel), .val (.int (3 : Int32)), .val (.int c0), .val (.int c1), .val (.int c2), .val (.int c3), .val (.ref rr), .unset] [])
      refine Win.st ?_ (fun tq kq => XS.iconst X356.here hx rfl (hb hby at_122) kq)
      show Win p e below _ T356 (mkF mt 123 #[.val (.int len), .val (.int lo), .val (.int hi), .val (.int sel), .val (.int (3 : Int32)), .val (.int c0), .val (.int c1), .val (.int c2), .val (.int c3), .val (.ref rr), .unset] [(.int (0 : Int32))])
      refine Win.st ?_ (fun tq kq => XS.istore X356.here hx rfl (hb hby at_123) rfl (l' := #[.val (.int len), .val (.int lo), .val (.int hi), .val (.int sel), .val (.int (3 : Int32)), .val (.int c0), .val (.int c1), .val (.int c2), .val (.int c3), .val (.ref rr), .val (.int (0 : Int32))]) rfl kq)
      show Win p e below _ T356 (mkF mt 125 #[.val (.int len), .val (.int lo), .val (.int hi), .val (.int sel), .val (.int (3 : Int32)), .val (.int c0), .val (.int c1), .val (.int c2), .val (.int c3), .val (.ref rr), .val (.int (0 : Int32))] [])
      refine Win.st ?_ (fun tq kq => XS.aload X356.here hx rfl (hb hby at_125) rfl rfl kq)
      show Win p e below _ T356 (mkF mt 127 #[.val (.int len), .val (.int lo), .val (.int hi), .val (.int sel), .val (.int (3 : Int32)), .val (.int c0), .val (.int c1), .val (.int c2), .val (.int c3), .val (.ref rr), .val (.int (0 : Int32))] [(.ref rr)])
      obtain ⟨v357, _, ⟨T357, L357, k357, n357⟩, -, X357, ⟨Lc357, hQ357, l357, y357, z357⟩, st357⟩ := Jvm.LawKit.callS X356 hx (y := (⟨"com/example/foldkey/foldkey/store/Token", "holdsSystem", "(Ljava/lang/String;)Z"⟩ : MethodName)) hown (mvT hZ (hw _ (List.mem_of_getElem? (i := 30) rfl))) (mvT hZ (hw _ (List.mem_of_getElem? (i := 31) rfl))) (mvT hZ (hw _ (List.mem_of_getElem? (i := 32) rfl))) (mvT hZ (hw _ (List.mem_of_getElem? (i := 33) rfl))) (by decide) (backOf (W := 0) (rm_hsy_3 l Z a0 hw [] rr tt kt cs c0 c1 c2 h356 n0 z356 E356 fv356 fc356 V356 S0 hcs O356 hB0 hB1 hB2) hZ (hw _ (List.mem_of_getElem? (i := 33) rfl)) (hw _ (List.mem_of_getElem? (i := 32) rfl)) (by decide) (by decide)) (g := (mkF mt 127 #[.val (.int len), .val (.int lo), .val (.int hi), .val (.int sel), .val (.int (3 : Int32)), .val (.int c0), .val (.int c1), .val (.int c2), .val (.int c3), .val (.ref rr), .val (.int (0 : Int32))] [(.ref rr)])) rfl (by rw [hml]; rfl) (argsL := [(.ref rr)]) (rest := []) (lenOf pd_14 rfl) rfl (by show 2 * 0 + _ ≤ _; exact Nat.le_of_eq rfl) (hb hby at_127) (fun _ _ => ⟨rfl, e356, (by decide : 3 + 0 ≤ _), (by decide : 10 + 0 ≤ _)⟩)
      dsimp only [Pt.U, Pt.locs, Pt.cells, Pt.slots] at X357 l357 y357 z357 st357 hQ357
      subst y357 z357
      replace X357 : Stand p l e _ s mt args below meth cd T357 L357 3 10 := X357
      obtain ⟨h357, e357⟩ : ∃ z, T357.heap = z := ⟨_, rfl⟩
      rw [e357] at hQ357
      obtain ⟨qq, rfl, Nq357, eh357, hy, hno⟩ := hQ357
      have N357 : Fr n0 L357 := by rw [l357]; exact Fr.app N356 Nq357
      rw [eh357] at e357
      refine Win.st ?_ st357
      show Win p e below _ T357 (mkF mt 130 #[.val (.int len), .val (.int lo), .val (.int hi), .val (.int sel), .val (.int (3 : Int32)), .val (.int c0), .val (.int c1), .val (.int c2), .val (.int c3), .val (.ref rr), .val (.int (0 : Int32))] [(.int qq)])
      refine Win.st ?_ (fun tq kq => XS.iload X357.here hx rfl (hb hby at_130) rfl kq)
      show Win p e below _ T357 (mkF mt 132 #[.val (.int len), .val (.int lo), .val (.int hi), .val (.int sel), .val (.int (3 : Int32)), .val (.int c0), .val (.int c1), .val (.int c2), .val (.int c3), .val (.ref rr), .val (.int (0 : Int32))] [(.int (0 : Int32)), (.int qq)])
      refine Win.st ?_ (fun tq kq => XS.icmpNo X357.here hx rfl (hb hby at_132) rfl (teq (hno fun q => q.1 hc76)).2 kq)
      show Win p e below _ T357 (mkF mt 135 #[.val (.int len), .val (.int lo), .val (.int hi), .val (.int sel), .val (.int (3 : Int32)), .val (.int c0), .val (.int c1), .val (.int c2), .val (.int c3), .val (.ref rr), .val (.int (0 : Int32))] [])
      refine Win.st ?_ (fun tq kq => XS.iconst X357.here hx rfl (hb hby at_135) kq)
      show Win p e below _ T357 (mkF mt 136 #[.val (.int len), .val (.int lo), .val (.int hi), .val (.int sel), .val (.int (3 : Int32)), .val (.int c0), .val (.int c1), .val (.int c2), .val (.int c3), .val (.ref rr), .val (.int (0 : Int32))] [(.int (1 : Int32))])
      refine Win.st ?_ (fun tq kq => XS.goto X357.here hx rfl (pc0 := 136) (pc' := 140) rfl (hb hby at_136) (by decide) (by decide) kq)
      show Win p e below _ T357 (mkF mt 140 #[.val (.int len), .val (.int lo), .val (.int hi), .val (.int sel), .val (.int (3 : Int32)), .val (.int c0), .val (.int c1), .val (.int c2), .val (.int c3), .val (.ref rr), .val (.int (0 : Int32))] [(.int (1 : Int32))])
      exact Win.retNW (s := s) (vm₁ := s.vm) X357 (State.WarmedH.since (State.WarmedH.refl s) 0) (Nat.zero_le _) hx hlk e357 (t := .boolean) (z' := (1 : Int32)) hrt (by simp) (hb hby at_140) (by decide) (by decide) rfl ⟨rfl, N357⟩
    · refine Win.st ?_ (fun tq kq => XS.icmpNo X356.here hx rfl (hb hby at_76) rfl (feq hc76).1 kq)
      show Win p e below _ T356 (mkF mt 79 #[.val (.int len), .val (.int lo), .val (.int hi), .val (.int sel), .val (.int (3 : Int32)), .val (.int c0), .val (.int c1), .val (.int c2), .val (.int c3), .val (.ref rr), .unset] [])
      refine Win.st ?_ (fun tq kq => XS.iload X356.here hx rfl (hb hby at_79) rfl kq)
      show Win p e below _ T356 (mkF mt 81 #[.val (.int len), .val (.int lo), .val (.int hi), .val (.int sel), .val (.int (3 : Int32)), .val (.int c0), .val (.int c1), .val (.int c2), .val (.int c3), .val (.ref rr), .unset] [(.int (3 : Int32))])
      refine Win.st ?_ (fun tq kq => XS.iconst X356.here hx rfl (hb hby at_81) kq)
      show Win p e below _ T356 (mkF mt 82 #[.val (.int len), .val (.int lo), .val (.int hi), .val (.int sel), .val (.int (3 : Int32)), .val (.int c0), .val (.int c1), .val (.int c2), .val (.int c3), .val (.ref rr), .unset] [(.int (2 : Int32)), (.int (3 : Int32))])
      refine Win.st ?_ (fun tq kq => XS.icmpNo X356.here hx rfl (hb hby at_82) rfl (flt (by decide : ¬ ((3 : Int32) < (2 : Int32)))).1 kq)
      show Win p e below _ T356 (mkF mt 85 #[.val (.int len), .val (.int lo), .val (.int hi), .val (.int sel), .val (.int (3 : Int32)), .val (.int c0), .val (.int c1), .val (.int c2), .val (.int c3), .val (.ref rr), .unset] [])
      refine Win.st ?_ (fun tq kq => XS.iload X356.here hx rfl (hb hby at_85) rfl kq)
      show Win p e below _ T356 (mkF mt 87 #[.val (.int len), .val (.int lo), .val (.int hi), .val (.int sel), .val (.int (3 : Int32)), .val (.int c0), .val (.int c1), .val (.int c2), .val (.int c3), .val (.ref rr), .unset] [(.int c1)])
      refine Win.st ?_ (fun tq kq => XS.bipush X356.here hx rfl (hb hby at_87) kq)
      show Win p e below _ T356 (mkF mt 89 #[.val (.int len), .val (.int lo), .val (.int hi), .val (.int sel), .val (.int (3 : Int32)), .val (.int c0), .val (.int c1), .val (.int c2), .val (.int c3), .val (.ref rr), .unset] [(.int (124 : Int32)), (.int c1)])
      by_cases hc89 : c1 = (124 : Int32)
      · refine Win.st ?_ (fun tq kq => XS.icmpYes X356.here hx rfl (pc0 := 89) (pc' := 122) rfl (hb hby at_89) rfl (teq hc89).1 (by decide) (by decide) kq)
        show Win p e below _ T356 (mkF mt 122 #[.val (.int len), .val (.int lo), .val (.int hi), .val (.int sel), .val (.int (3 : Int32)), .val (.int c0), .val (.int c1), .val (.int c2), .val (.int c3), .val (.ref rr), .unset] [])
        refine Win.st ?_ (fun tq kq => XS.iconst X356.here hx rfl (hb hby at_122) kq)
        show Win p e below _ T356 (mkF mt 123 #[.val (.int len), .val (.int lo), .val (.int hi), .val (.int sel), .val (.int (3 : Int32)), .val (.int c0), .val (.int c1), .val (.int c2), .val (.int c3), .val (.ref rr), .unset] [(.int (0 : Int32))])
        refine Win.st ?_ (fun tq kq => XS.istore X356.here hx rfl (hb hby at_123) rfl (l' := #[.val (.int len), .val (.int lo), .val (.int hi), .val (.int sel), .val (.int (3 : Int32)), .val (.int c0), .val (.int c1), .val (.int c2), .val (.int c3), .val (.ref rr), .val (.int (0 : Int32))]) rfl kq)
        show Win p e below _ T356 (mkF mt 125 #[.val (.int len), .val (.int lo), .val (.int hi), .val (.int sel), .val (.int (3 : Int32)), .val (.int c0), .val (.int c1), .val (.int c2), .val (.int c3), .val (.ref rr), .val (.int (0 : Int32))] [])
        refine Win.st ?_ (fun tq kq => XS.aload X356.here hx rfl (hb hby at_125) rfl rfl kq)
        show Win p e below _ T356 (mkF mt 127 #[.val (.int len), .val (.int lo), .val (.int hi), .val (.int sel), .val (.int (3 : Int32)), .val (.int c0), .val (.int c1), .val (.int c2), .val (.int c3), .val (.ref rr), .val (.int (0 : Int32))] [(.ref rr)])
        obtain ⟨v358, _, ⟨T358, L358, k358, n358⟩, -, X358, ⟨Lc358, hQ358, l358, y358, z358⟩, st358⟩ := Jvm.LawKit.callS X356 hx (y := (⟨"com/example/foldkey/foldkey/store/Token", "holdsSystem", "(Ljava/lang/String;)Z"⟩ : MethodName)) hown (mvT hZ (hw _ (List.mem_of_getElem? (i := 30) rfl))) (mvT hZ (hw _ (List.mem_of_getElem? (i := 31) rfl))) (mvT hZ (hw _ (List.mem_of_getElem? (i := 32) rfl))) (mvT hZ (hw _ (List.mem_of_getElem? (i := 33) rfl))) (by decide) (backOf (W := 0) (rm_hsy_3 l Z a0 hw [] rr tt kt cs c0 c1 c2 h356 n0 z356 E356 fv356 fc356 V356 S0 hcs O356 hB0 hB1 hB2) hZ (hw _ (List.mem_of_getElem? (i := 33) rfl)) (hw _ (List.mem_of_getElem? (i := 32) rfl)) (by decide) (by decide)) (g := (mkF mt 127 #[.val (.int len), .val (.int lo), .val (.int hi), .val (.int sel), .val (.int (3 : Int32)), .val (.int c0), .val (.int c1), .val (.int c2), .val (.int c3), .val (.ref rr), .val (.int (0 : Int32))] [(.ref rr)])) rfl (by rw [hml]; rfl) (argsL := [(.ref rr)]) (rest := []) (lenOf pd_14 rfl) rfl (by show 2 * 0 + _ ≤ _; exact Nat.le_of_eq rfl) (hb hby at_127) (fun _ _ => ⟨rfl, e356, (by decide : 3 + 0 ≤ _), (by decide : 10 + 0 ≤ _)⟩)
        dsimp only [Pt.U, Pt.locs, Pt.cells, Pt.slots] at X358 l358 y358 z358 st358 hQ358
        subst y358 z358
        replace X358 : Stand p l e _ s mt args below meth cd T358 L358 3 10 := X358
        obtain ⟨h358, e358⟩ : ∃ z, T358.heap = z := ⟨_, rfl⟩
        rw [e358] at hQ358
        obtain ⟨qq, rfl, Nq358, eh358, hy, hno⟩ := hQ358
        have N358 : Fr n0 L358 := by rw [l358]; exact Fr.app N356 Nq358
        rw [eh358] at e358
        refine Win.st ?_ st358
        show Win p e below _ T358 (mkF mt 130 #[.val (.int len), .val (.int lo), .val (.int hi), .val (.int sel), .val (.int (3 : Int32)), .val (.int c0), .val (.int c1), .val (.int c2), .val (.int c3), .val (.ref rr), .val (.int (0 : Int32))] [(.int qq)])
        refine Win.st ?_ (fun tq kq => XS.iload X358.here hx rfl (hb hby at_130) rfl kq)
        show Win p e below _ T358 (mkF mt 132 #[.val (.int len), .val (.int lo), .val (.int hi), .val (.int sel), .val (.int (3 : Int32)), .val (.int c0), .val (.int c1), .val (.int c2), .val (.int c3), .val (.ref rr), .val (.int (0 : Int32))] [(.int (0 : Int32)), (.int qq)])
        refine Win.st ?_ (fun tq kq => XS.icmpNo X358.here hx rfl (hb hby at_132) rfl (teq (hno fun q => q.2.1 hc89)).2 kq)
        show Win p e below _ T358 (mkF mt 135 #[.val (.int len), .val (.int lo), .val (.int hi), .val (.int sel), .val (.int (3 : Int32)), .val (.int c0), .val (.int c1), .val (.int c2), .val (.int c3), .val (.ref rr), .val (.int (0 : Int32))] [])
        refine Win.st ?_ (fun tq kq => XS.iconst X358.here hx rfl (hb hby at_135) kq)
        show Win p e below _ T358 (mkF mt 136 #[.val (.int len), .val (.int lo), .val (.int hi), .val (.int sel), .val (.int (3 : Int32)), .val (.int c0), .val (.int c1), .val (.int c2), .val (.int c3), .val (.ref rr), .val (.int (0 : Int32))] [(.int (1 : Int32))])
        refine Win.st ?_ (fun tq kq => XS.goto X358.here hx rfl (pc0 := 136) (pc' := 140) rfl (hb hby at_136) (by decide) (by decide) kq)
        show Win p e below _ T358 (mkF mt 140 #[.val (.int len), .val (.int lo), .val (.int hi), .val (.int sel), .val (.int (3 : Int32)), .val (.int c0), .val (.int c1), .val (.int c2), .val (.int c3), .val (.ref rr), .val (.int (0 : Int32))] [(.int (1 : Int32))])
        exact Win.retNW (s := s) (vm₁ := s.vm) X358 (State.WarmedH.since (State.WarmedH.refl s) 0) (Nat.zero_le _) hx hlk e358 (t := .boolean) (z' := (1 : Int32)) hrt (by simp) (hb hby at_140) (by decide) (by decide) rfl ⟨rfl, N358⟩
      · refine Win.st ?_ (fun tq kq => XS.icmpNo X356.here hx rfl (hb hby at_89) rfl (feq hc89).1 kq)
        show Win p e below _ T356 (mkF mt 92 #[.val (.int len), .val (.int lo), .val (.int hi), .val (.int sel), .val (.int (3 : Int32)), .val (.int c0), .val (.int c1), .val (.int c2), .val (.int c3), .val (.ref rr), .unset] [])
        refine Win.st ?_ (fun tq kq => XS.iload X356.here hx rfl (hb hby at_92) rfl kq)
        show Win p e below _ T356 (mkF mt 94 #[.val (.int len), .val (.int lo), .val (.int hi), .val (.int sel), .val (.int (3 : Int32)), .val (.int c0), .val (.int c1), .val (.int c2), .val (.int c3), .val (.ref rr), .unset] [(.int (3 : Int32))])
        refine Win.st ?_ (fun tq kq => XS.iconst X356.here hx rfl (hb hby at_94) kq)
        show Win p e below _ T356 (mkF mt 95 #[.val (.int len), .val (.int lo), .val (.int hi), .val (.int sel), .val (.int (3 : Int32)), .val (.int c0), .val (.int c1), .val (.int c2), .val (.int c3), .val (.ref rr), .unset] [(.int (3 : Int32)), (.int (3 : Int32))])
        refine Win.st ?_ (fun tq kq => XS.icmpNo X356.here hx rfl (hb hby at_95) rfl (flt (Int32.lt_irrefl)).1 kq)
        show Win p e below _ T356 (mkF mt 98 #[.val (.int len), .val (.int lo), .val (.int hi), .val (.int sel), .val (.int (3 : Int32)), .val (.int c0), .val (.int c1), .val (.int c2), .val (.int c3), .val (.ref rr), .unset] [])
        refine Win.st ?_ (fun tq kq => XS.iload X356.here hx rfl (hb hby at_98) rfl kq)
        show Win p e below _ T356 (mkF mt 100 #[.val (.int len), .val (.int lo), .val (.int hi), .val (.int sel), .val (.int (3 : Int32)), .val (.int c0), .val (.int c1), .val (.int c2), .val (.int c3), .val (.ref rr), .unset] [(.int c2)])
        refine Win.st ?_ (fun tq kq => XS.bipush X356.here hx rfl (hb hby at_100) kq)
        show Win p e below _ T356 (mkF mt 102 #[.val (.int len), .val (.int lo), .val (.int hi), .val (.int sel), .val (.int (3 : Int32)), .val (.int c0), .val (.int c1), .val (.int c2), .val (.int c3), .val (.ref rr), .unset] [(.int (124 : Int32)), (.int c2)])
        by_cases hc102 : c2 = (124 : Int32)
        · refine Win.st ?_ (fun tq kq => XS.icmpYes X356.here hx rfl (pc0 := 102) (pc' := 122) rfl (hb hby at_102) rfl (teq hc102).1 (by decide) (by decide) kq)
          show Win p e below _ T356 (mkF mt 122 #[.val (.int len), .val (.int lo), .val (.int hi), .val (.int sel), .val (.int (3 : Int32)), .val (.int c0), .val (.int c1), .val (.int c2), .val (.int c3), .val (.ref rr), .unset] [])
          refine Win.st ?_ (fun tq kq => XS.iconst X356.here hx rfl (hb hby at_122) kq)
          show Win p e below _ T356 (mkF mt 123 #[.val (.int len), .val (.int lo), .val (.int hi), .val (.int sel), .val (.int (3 : Int32)), .val (.int c0), .val (.int c1), .val (.int c2), .val (.int c3), .val (.ref rr), .unset] [(.int (0 : Int32))])
          refine Win.st ?_ (fun tq kq => XS.istore X356.here hx rfl (hb hby at_123) rfl (l' := #[.val (.int len), .val (.int lo), .val (.int hi), .val (.int sel), .val (.int (3 : Int32)), .val (.int c0), .val (.int c1), .val (.int c2), .val (.int c3), .val (.ref rr), .val (.int (0 : Int32))]) rfl kq)
          show Win p e below _ T356 (mkF mt 125 #[.val (.int len), .val (.int lo), .val (.int hi), .val (.int sel), .val (.int (3 : Int32)), .val (.int c0), .val (.int c1), .val (.int c2), .val (.int c3), .val (.ref rr), .val (.int (0 : Int32))] [])
          refine Win.st ?_ (fun tq kq => XS.aload X356.here hx rfl (hb hby at_125) rfl rfl kq)
          show Win p e below _ T356 (mkF mt 127 #[.val (.int len), .val (.int lo), .val (.int hi), .val (.int sel), .val (.int (3 : Int32)), .val (.int c0), .val (.int c1), .val (.int c2), .val (.int c3), .val (.ref rr), .val (.int (0 : Int32))] [(.ref rr)])
          obtain ⟨v359, _, ⟨T359, L359, k359, n359⟩, -, X359, ⟨Lc359, hQ359, l359, y359, z359⟩, st359⟩ := Jvm.LawKit.callS X356 hx (y := (⟨"com/example/foldkey/foldkey/store/Token", "holdsSystem", "(Ljava/lang/String;)Z"⟩ : MethodName)) hown (mvT hZ (hw _ (List.mem_of_getElem? (i := 30) rfl))) (mvT hZ (hw _ (List.mem_of_getElem? (i := 31) rfl))) (mvT hZ (hw _ (List.mem_of_getElem? (i := 32) rfl))) (mvT hZ (hw _ (List.mem_of_getElem? (i := 33) rfl))) (by decide) (backOf (W := 0) (rm_hsy_3 l Z a0 hw [] rr tt kt cs c0 c1 c2 h356 n0 z356 E356 fv356 fc356 V356 S0 hcs O356 hB0 hB1 hB2) hZ (hw _ (List.mem_of_getElem? (i := 33) rfl)) (hw _ (List.mem_of_getElem? (i := 32) rfl)) (by decide) (by decide)) (g := (mkF mt 127 #[.val (.int len), .val (.int lo), .val (.int hi), .val (.int sel), .val (.int (3 : Int32)), .val (.int c0), .val (.int c1), .val (.int c2), .val (.int c3), .val (.ref rr), .val (.int (0 : Int32))] [(.ref rr)])) rfl (by rw [hml]; rfl) (argsL := [(.ref rr)]) (rest := []) (lenOf pd_14 rfl) rfl (by show 2 * 0 + _ ≤ _; exact Nat.le_of_eq rfl) (hb hby at_127) (fun _ _ => ⟨rfl, e356, (by decide : 3 + 0 ≤ _), (by decide : 10 + 0 ≤ _)⟩)
          dsimp only [Pt.U, Pt.locs, Pt.cells, Pt.slots] at X359 l359 y359 z359 st359 hQ359
          subst y359 z359
          replace X359 : Stand p l e _ s mt args below meth cd T359 L359 3 10 := X359
          obtain ⟨h359, e359⟩ : ∃ z, T359.heap = z := ⟨_, rfl⟩
          rw [e359] at hQ359
          obtain ⟨qq, rfl, Nq359, eh359, hy, hno⟩ := hQ359
          have N359 : Fr n0 L359 := by rw [l359]; exact Fr.app N356 Nq359
          rw [eh359] at e359
          refine Win.st ?_ st359
          show Win p e below _ T359 (mkF mt 130 #[.val (.int len), .val (.int lo), .val (.int hi), .val (.int sel), .val (.int (3 : Int32)), .val (.int c0), .val (.int c1), .val (.int c2), .val (.int c3), .val (.ref rr), .val (.int (0 : Int32))] [(.int qq)])
          refine Win.st ?_ (fun tq kq => XS.iload X359.here hx rfl (hb hby at_130) rfl kq)
          show Win p e below _ T359 (mkF mt 132 #[.val (.int len), .val (.int lo), .val (.int hi), .val (.int sel), .val (.int (3 : Int32)), .val (.int c0), .val (.int c1), .val (.int c2), .val (.int c3), .val (.ref rr), .val (.int (0 : Int32))] [(.int (0 : Int32)), (.int qq)])
          refine Win.st ?_ (fun tq kq => XS.icmpNo X359.here hx rfl (hb hby at_132) rfl (teq (hno fun q => q.2.2 hc102)).2 kq)
          show Win p e below _ T359 (mkF mt 135 #[.val (.int len), .val (.int lo), .val (.int hi), .val (.int sel), .val (.int (3 : Int32)), .val (.int c0), .val (.int c1), .val (.int c2), .val (.int c3), .val (.ref rr), .val (.int (0 : Int32))] [])
          refine Win.st ?_ (fun tq kq => XS.iconst X359.here hx rfl (hb hby at_135) kq)
          show Win p e below _ T359 (mkF mt 136 #[.val (.int len), .val (.int lo), .val (.int hi), .val (.int sel), .val (.int (3 : Int32)), .val (.int c0), .val (.int c1), .val (.int c2), .val (.int c3), .val (.ref rr), .val (.int (0 : Int32))] [(.int (1 : Int32))])
          refine Win.st ?_ (fun tq kq => XS.goto X359.here hx rfl (pc0 := 136) (pc' := 140) rfl (hb hby at_136) (by decide) (by decide) kq)
          show Win p e below _ T359 (mkF mt 140 #[.val (.int len), .val (.int lo), .val (.int hi), .val (.int sel), .val (.int (3 : Int32)), .val (.int c0), .val (.int c1), .val (.int c2), .val (.int c3), .val (.ref rr), .val (.int (0 : Int32))] [(.int (1 : Int32))])
          exact Win.retNW (s := s) (vm₁ := s.vm) X359 (State.WarmedH.since (State.WarmedH.refl s) 0) (Nat.zero_le _) hx hlk e359 (t := .boolean) (z' := (1 : Int32)) hrt (by simp) (hb hby at_140) (by decide) (by decide) rfl ⟨rfl, N359⟩
        · refine Win.st ?_ (fun tq kq => XS.icmpNo X356.here hx rfl (hb hby at_102) rfl (feq hc102).1 kq)
          show Win p e below _ T356 (mkF mt 105 #[.val (.int len), .val (.int lo), .val (.int hi), .val (.int sel), .val (.int (3 : Int32)), .val (.int c0), .val (.int c1), .val (.int c2), .val (.int c3), .val (.ref rr), .unset] [])
          refine Win.st ?_ (fun tq kq => XS.iload X356.here hx rfl (hb hby at_105) rfl kq)
          show Win p e below _ T356 (mkF mt 107 #[.val (.int len), .val (.int lo), .val (.int hi), .val (.int sel), .val (.int (3 : Int32)), .val (.int c0), .val (.int c1), .val (.int c2), .val (.int c3), .val (.ref rr), .unset] [(.int (3 : Int32))])
          refine Win.st ?_ (fun tq kq => XS.iconst X356.here hx rfl (hb hby at_107) kq)
          show Win p e below _ T356 (mkF mt 108 #[.val (.int len), .val (.int lo), .val (.int hi), .val (.int sel), .val (.int (3 : Int32)), .val (.int c0), .val (.int c1), .val (.int c2), .val (.int c3), .val (.ref rr), .unset] [(.int (4 : Int32)), (.int (3 : Int32))])
          refine Win.st ?_ (fun tq kq => XS.icmpYes X356.here hx rfl (pc0 := 108) (pc' := 118) rfl (hb hby at_108) rfl (tlt (by decide : (3 : Int32) < (4 : Int32))).1 (by decide) (by decide) kq)
          show Win p e below _ T356 (mkF mt 118 #[.val (.int len), .val (.int lo), .val (.int hi), .val (.int sel), .val (.int (3 : Int32)), .val (.int c0), .val (.int c1), .val (.int c2), .val (.int c3), .val (.ref rr), .unset] [])
          refine Win.st ?_ (fun tq kq => XS.iconst X356.here hx rfl (hb hby at_118) kq)
          show Win p e below _ T356 (mkF mt 119 #[.val (.int len), .val (.int lo), .val (.int hi), .val (.int sel), .val (.int (3 : Int32)), .val (.int c0), .val (.int c1), .val (.int c2), .val (.int c3), .val (.ref rr), .unset] [(.int (1 : Int32))])
          refine Win.st ?_ (fun tq kq => XS.goto X356.here hx rfl (pc0 := 119) (pc' := 123) rfl (hb hby at_119) (by decide) (by decide) kq)
          show Win p e below _ T356 (mkF mt 123 #[.val (.int len), .val (.int lo), .val (.int hi), .val (.int sel), .val (.int (3 : Int32)), .val (.int c0), .val (.int c1), .val (.int c2), .val (.int c3), .val (.ref rr), .unset] [(.int (1 : Int32))])
          refine Win.st ?_ (fun tq kq => XS.istore X356.here hx rfl (hb hby at_123) rfl (l' := #[.val (.int len), .val (.int lo), .val (.int hi), .val (.int sel), .val (.int (3 : Int32)), .val (.int c0), .val (.int c1), .val (.int c2), .val (.int c3), .val (.ref rr), .val (.int (1 : Int32))]) rfl kq)
          show Win p e below _ T356 (mkF mt 125 #[.val (.int len), .val (.int lo), .val (.int hi), .val (.int sel), .val (.int (3 : Int32)), .val (.int c0), .val (.int c1), .val (.int c2), .val (.int c3), .val (.ref rr), .val (.int (1 : Int32))] [])
          refine Win.st ?_ (fun tq kq => XS.aload X356.here hx rfl (hb hby at_125) rfl rfl kq)
          show Win p e below _ T356 (mkF mt 127 #[.val (.int len), .val (.int lo), .val (.int hi), .val (.int sel), .val (.int (3 : Int32)), .val (.int c0), .val (.int c1), .val (.int c2), .val (.int c3), .val (.ref rr), .val (.int (1 : Int32))] [(.ref rr)])
          obtain ⟨v360, _, ⟨T360, L360, k360, n360⟩, -, X360, ⟨Lc360, hQ360, l360, y360, z360⟩, st360⟩ := Jvm.LawKit.callS X356 hx (y := (⟨"com/example/foldkey/foldkey/store/Token", "holdsSystem", "(Ljava/lang/String;)Z"⟩ : MethodName)) hown (mvT hZ (hw _ (List.mem_of_getElem? (i := 30) rfl))) (mvT hZ (hw _ (List.mem_of_getElem? (i := 31) rfl))) (mvT hZ (hw _ (List.mem_of_getElem? (i := 32) rfl))) (mvT hZ (hw _ (List.mem_of_getElem? (i := 33) rfl))) (by decide) (backOf (W := 0) (rm_hsy_3 l Z a0 hw [] rr tt kt cs c0 c1 c2 h356 n0 z356 E356 fv356 fc356 V356 S0 hcs O356 hB0 hB1 hB2) hZ (hw _ (List.mem_of_getElem? (i := 33) rfl)) (hw _ (List.mem_of_getElem? (i := 32) rfl)) (by decide) (by decide)) (g := (mkF mt 127 #[.val (.int len), .val (.int lo), .val (.int hi), .val (.int sel), .val (.int (3 : Int32)), .val (.int c0), .val (.int c1), .val (.int c2), .val (.int c3), .val (.ref rr), .val (.int (1 : Int32))] [(.ref rr)])) rfl (by rw [hml]; rfl) (argsL := [(.ref rr)]) (rest := []) (lenOf pd_14 rfl) rfl (by show 2 * 0 + _ ≤ _; exact Nat.le_of_eq rfl) (hb hby at_127) (fun _ _ => ⟨rfl, e356, (by decide : 3 + 0 ≤ _), (by decide : 10 + 0 ≤ _)⟩)
          dsimp only [Pt.U, Pt.locs, Pt.cells, Pt.slots] at X360 l360 y360 z360 st360 hQ360
          subst y360 z360
          replace X360 : Stand p l e _ s mt args below meth cd T360 L360 3 10 := X360
          obtain ⟨h360, e360⟩ : ∃ z, T360.heap = z := ⟨_, rfl⟩
          rw [e360] at hQ360
          obtain ⟨qq, rfl, Nq360, eh360, hy, hno⟩ := hQ360
          have N360 : Fr n0 L360 := by rw [l360]; exact Fr.app N356 Nq360
          rw [eh360] at e360
          refine Win.st ?_ st360
          show Win p e below _ T360 (mkF mt 130 #[.val (.int len), .val (.int lo), .val (.int hi), .val (.int sel), .val (.int (3 : Int32)), .val (.int c0), .val (.int c1), .val (.int c2), .val (.int c3), .val (.ref rr), .val (.int (1 : Int32))] [(.int qq)])
          refine Win.st ?_ (fun tq kq => XS.iload X360.here hx rfl (hb hby at_130) rfl kq)
          show Win p e below _ T360 (mkF mt 132 #[.val (.int len), .val (.int lo), .val (.int hi), .val (.int sel), .val (.int (3 : Int32)), .val (.int c0), .val (.int c1), .val (.int c2), .val (.int c3), .val (.ref rr), .val (.int (1 : Int32))] [(.int (1 : Int32)), (.int qq)])
          refine Win.st ?_ (fun tq kq => XS.icmpNo X360.here hx rfl (hb hby at_132) rfl (teq (hy ⟨hc76, hc89, hc102⟩)).2 kq)
          show Win p e below _ T360 (mkF mt 135 #[.val (.int len), .val (.int lo), .val (.int hi), .val (.int sel), .val (.int (3 : Int32)), .val (.int c0), .val (.int c1), .val (.int c2), .val (.int c3), .val (.ref rr), .val (.int (1 : Int32))] [])
          refine Win.st ?_ (fun tq kq => XS.iconst X360.here hx rfl (hb hby at_135) kq)
          show Win p e below _ T360 (mkF mt 136 #[.val (.int len), .val (.int lo), .val (.int hi), .val (.int sel), .val (.int (3 : Int32)), .val (.int c0), .val (.int c1), .val (.int c2), .val (.int c3), .val (.ref rr), .val (.int (1 : Int32))] [(.int (1 : Int32))])
          refine Win.st ?_ (fun tq kq => XS.goto X360.here hx rfl (pc0 := 136) (pc' := 140) rfl (hb hby at_136) (by decide) (by decide) kq)
          show Win p e below _ T360 (mkF mt 140 #[.val (.int len), .val (.int lo), .val (.int hi), .val (.int sel), .val (.int (3 : Int32)), .val (.int c0), .val (.int c1), .val (.int c2), .val (.int c3), .val (.ref rr), .val (.int (1 : Int32))] [(.int (1 : Int32))])
          exact Win.retNW (s := s) (vm₁ := s.vm) X360 (State.WarmedH.since (State.WarmedH.refl s) 0) (Nat.zero_le _) hx hlk e360 (t := .boolean) (z' := (1 : Int32)) hrt (by simp) (hb hby at_140) (by decide) (by decide) rfl ⟨rfl, N360⟩
  · show Win p e below _ T346 (mkF mt 51 #[.val (.int len), .val (.int lo), .val (.int hi), .val (.int sel), .val (.int (4 : Int32)), .val (.int c0), .val (.int c1), .val (.int c2), .val (.int c3), .unset, .unset] [])
    refine Win.st ?_ (fun tq kq => XS.iload X346.here hx rfl (hb hby at_51) rfl kq)
    show Win p e below _ T346 (mkF mt 53 #[.val (.int len), .val (.int lo), .val (.int hi), .val (.int sel), .val (.int (4 : Int32)), .val (.int c0), .val (.int c1), .val (.int c2), .val (.int c3), .unset, .unset] [(.int (4 : Int32))])
    refine Win.st ?_ (fun tq kq => XS.iload X346.here hx rfl (hb hby at_53) rfl kq)
    show Win p e below _ T346 (mkF mt 55 #[.val (.int len), .val (.int lo), .val (.int hi), .val (.int sel), .val (.int (4 : Int32)), .val (.int c0), .val (.int c1), .val (.int c2), .val (.int c3), .unset, .unset] [(.int c0), (.int (4 : Int32))])
    refine Win.st ?_ (fun tq kq => XS.iload X346.here hx rfl (hb hby at_55) rfl kq)
    show Win p e below _ T346 (mkF mt 57 #[.val (.int len), .val (.int lo), .val (.int hi), .val (.int sel), .val (.int (4 : Int32)), .val (.int c0), .val (.int c1), .val (.int c2), .val (.int c3), .unset, .unset] [(.int c1), (.int c0), (.int (4 : Int32))])
    refine Win.st ?_ (fun tq kq => XS.iload X346.here hx rfl (hb hby at_57) rfl kq)
    show Win p e below _ T346 (mkF mt 59 #[.val (.int len), .val (.int lo), .val (.int hi), .val (.int sel), .val (.int (4 : Int32)), .val (.int c0), .val (.int c1), .val (.int c2), .val (.int c3), .unset, .unset] [(.int c2), (.int c1), (.int c0), (.int (4 : Int32))])
    refine Win.st ?_ (fun tq kq => XS.iload X346.here hx rfl (hb hby at_59) rfl kq)
    show Win p e below _ T346 (mkF mt 61 #[.val (.int len), .val (.int lo), .val (.int hi), .val (.int sel), .val (.int (4 : Int32)), .val (.int c0), .val (.int c1), .val (.int c2), .val (.int c3), .unset, .unset] [(.int c3), (.int c2), (.int c1), (.int c0), (.int (4 : Int32))])
    obtain ⟨v361, _, ⟨T361, L361, k361, n361⟩, -, X361, ⟨Lc361, hQ361, l361, y361, z361⟩, st361⟩ := Jvm.LawKit.callS X346 hx (y := (⟨"com/example/foldkey/foldkey/store/TokenHoldsSystemPinLaw", "make", "(ICCCC)Ljava/lang/String;"⟩ : MethodName)) hown (mvT hZ (hw _ (List.mem_of_getElem? (i := 5) rfl))) (mvT hZ (hw _ (List.mem_of_getElem? (i := 6) rfl))) (mvT hZ (hw _ (List.mem_of_getElem? (i := 3) rfl))) (mvT hZ (hw _ (List.mem_of_getElem? (i := 7) rfl))) (by decide) (backOf (W := 0) (rm_make_4 l Z a0 hw [] c0 c1 c2 c3 cs h0 n0 Z0 S0 hcs O hB0 hB1 hB2 hB3) hZ (hw _ (List.mem_of_getElem? (i := 7) rfl)) (hw _ (List.mem_of_getElem? (i := 3) rfl)) (by decide) (by decide)) (g := (mkF mt 61 #[.val (.int len), .val (.int lo), .val (.int hi), .val (.int sel), .val (.int (4 : Int32)), .val (.int c0), .val (.int c1), .val (.int c2), .val (.int c3), .unset, .unset] [(.int c3), (.int c2), (.int c1), (.int c0), (.int (4 : Int32))])) rfl (by rw [hml]; rfl) (argsL := [(.int (4 : Int32)), (.int c0), (.int c1), (.int c2), (.int c3)]) (rest := []) (lenOf pd_13 rfl) rfl (by show 2 * 0 + _ ≤ _; exact Nat.le_of_eq rfl) (hb hby at_61) (fun _ _ => ⟨rfl, e346, (by decide : 0 + 3 ≤ _), (by decide : 0 + 12 ≤ _)⟩)
    dsimp only [Pt.U, Pt.locs, Pt.cells, Pt.slots] at X361 l361 y361 z361 st361 hQ361
    subst y361 z361
    replace X361 : Stand p l e _ s mt args below meth cd T361 L361 3 12 := X361
    obtain ⟨h361, e361⟩ : ∃ z, T361.heap = z := ⟨_, rfl⟩
    rw [e361] at hQ361
    obtain ⟨rr, rfl, Nq361, z361, O361, tt, kt, E361, fv361, fc361, V361⟩ := hQ361
    have N361 : Fr n0 L361 := by rw [l361]; exact Fr.app N346 Nq361
    refine Win.st ?_ st361
    show Win p e below _ T361 (mkF mt 64 #[.val (.int len), .val (.int lo), .val (.int hi), .val (.int sel), .val (.int (4 : Int32)), .val (.int c0), .val (.int c1), .val (.int c2), .val (.int c3), .unset, .unset] [(.ref rr)])
    refine Win.st ?_ (fun tq kq => XS.astore X361.here hx rfl (hb hby at_64) rfl rfl (l' := #[.val (.int len), .val (.int lo), .val (.int hi), .val (.int sel), .val (.int (4 : Int32)), .val (.int c0), .val (.int c1), .val (.int c2), .val (.int c3), .val (.ref rr), .unset]) rfl kq)
    show Win p e below _ T361 (mkF mt 66 #[.val (.int len), .val (.int lo), .val (.int hi), .val (.int sel), .val (.int (4 : Int32)), .val (.int c0), .val (.int c1), .val (.int c2), .val (.int c3), .val (.ref rr), .unset] [])
    refine Win.st ?_ (fun tq kq => XS.iload X361.here hx rfl (hb hby at_66) rfl kq)
    show Win p e below _ T361 (mkF mt 68 #[.val (.int len), .val (.int lo), .val (.int hi), .val (.int sel), .val (.int (4 : Int32)), .val (.int c0), .val (.int c1), .val (.int c2), .val (.int c3), .val (.ref rr), .unset] [(.int (4 : Int32))])
    refine Win.st ?_ (fun tq kq => XS.iconst X361.here hx rfl (hb hby at_68) kq)
    show Win p e below _ T361 (mkF mt 69 #[.val (.int len), .val (.int lo), .val (.int hi), .val (.int sel), .val (.int (4 : Int32)), .val (.int c0), .val (.int c1), .val (.int c2), .val (.int c3), .val (.ref rr), .unset] [(.int (1 : Int32)), (.int (4 : Int32))])
    refine Win.st ?_ (fun tq kq => XS.icmpNo X361.here hx rfl (hb hby at_69) rfl (flt (by decide : ¬ ((4 : Int32) < (1 : Int32)))).1 kq)
    show Win p e below _ T361 (mkF mt 72 #[.val (.int len), .val (.int lo), .val (.int hi), .val (.int sel), .val (.int (4 : Int32)), .val (.int c0), .val (.int c1), .val (.int c2), .val (.int c3), .val (.ref rr), .unset] [])
    refine Win.st ?_ (fun tq kq => XS.iload X361.here hx rfl (hb hby at_72) rfl kq)
    show Win p e below _ T361 (mkF mt 74 #[.val (.int len), .val (.int lo), .val (.int hi), .val (.int sel), .val (.int (4 : Int32)), .val (.int c0), .val (.int c1), .val (.int c2), .val (.int c3), .val (.ref rr), .unset] [(.int c0)])
    refine Win.st ?_ (fun tq kq => XS.bipush X361.here hx rfl (hb hby at_74) kq)
    show Win p e below _ T361 (mkF mt 76 #[.val (.int len), .val (.int lo), .val (.int hi), .val (.int sel), .val (.int (4 : Int32)), .val (.int c0), .val (.int c1), .val (.int c2), .val (.int c3), .val (.ref rr), .unset] [(.int (124 : Int32)), (.int c0)])
    by_cases hc76 : c0 = (124 : Int32)
    · refine Win.st ?_ (fun tq kq => XS.icmpYes X361.here hx rfl (pc0 := 76) (pc' := 122) rfl (hb hby at_76) rfl (teq hc76).1 (by decide) (by decide) kq)
      show Win p e below _ T361 (mkF mt 122 #[.val (.int len), .val (.int lo), .val (.int hi), .val (.int sel), .val (.int (4 : Int32)), .val (.int c0), .val (.int c1), .val (.int c2), .val (.int c3), .val (.ref rr), .unset] [])
      refine Win.st ?_ (fun tq kq => XS.iconst X361.here hx rfl (hb hby at_122) kq)
      show Win p e below _ T361 (mkF mt 123 #[.val (.int len), .val (.int lo), .val (.int hi), .val (.int sel), .val (.int (4 : Int32)), .val (.int c0), .val (.int c1), .val (.int c2), .val (.int c3), .val (.ref rr), .unset] [(.int (0 : Int32))])
      refine Win.st ?_ (fun tq kq => XS.istore X361.here hx rfl (hb hby at_123) rfl (l' := #[.val (.int len), .val (.int lo), .val (.int hi), .val (.int sel), .val (.int (4 : Int32)), .val (.int c0), .val (.int c1), .val (.int c2), .val (.int c3), .val (.ref rr), .val (.int (0 : Int32))]) rfl kq)
      show Win p e below _ T361 (mkF mt 125 #[.val (.int len), .val (.int lo), .val (.int hi), .val (.int sel), .val (.int (4 : Int32)), .val (.int c0), .val (.int c1), .val (.int c2), .val (.int c3), .val (.ref rr), .val (.int (0 : Int32))] [])
      refine Win.st ?_ (fun tq kq => XS.aload X361.here hx rfl (hb hby at_125) rfl rfl kq)
      show Win p e below _ T361 (mkF mt 127 #[.val (.int len), .val (.int lo), .val (.int hi), .val (.int sel), .val (.int (4 : Int32)), .val (.int c0), .val (.int c1), .val (.int c2), .val (.int c3), .val (.ref rr), .val (.int (0 : Int32))] [(.ref rr)])
      obtain ⟨v362, _, ⟨T362, L362, k362, n362⟩, -, X362, ⟨Lc362, hQ362, l362, y362, z362⟩, st362⟩ := Jvm.LawKit.callS X361 hx (y := (⟨"com/example/foldkey/foldkey/store/Token", "holdsSystem", "(Ljava/lang/String;)Z"⟩ : MethodName)) hown (mvT hZ (hw _ (List.mem_of_getElem? (i := 30) rfl))) (mvT hZ (hw _ (List.mem_of_getElem? (i := 31) rfl))) (mvT hZ (hw _ (List.mem_of_getElem? (i := 32) rfl))) (mvT hZ (hw _ (List.mem_of_getElem? (i := 33) rfl))) (by decide) (backOf (W := 0) (rm_hsy_4 l Z a0 hw [] rr tt kt cs c0 c1 c2 c3 h361 n0 z361 E361 fv361 fc361 V361 S0 hcs O361 hB0 hB1 hB2 hB3) hZ (hw _ (List.mem_of_getElem? (i := 33) rfl)) (hw _ (List.mem_of_getElem? (i := 32) rfl)) (by decide) (by decide)) (g := (mkF mt 127 #[.val (.int len), .val (.int lo), .val (.int hi), .val (.int sel), .val (.int (4 : Int32)), .val (.int c0), .val (.int c1), .val (.int c2), .val (.int c3), .val (.ref rr), .val (.int (0 : Int32))] [(.ref rr)])) rfl (by rw [hml]; rfl) (argsL := [(.ref rr)]) (rest := []) (lenOf pd_14 rfl) rfl (by show 2 * 0 + _ ≤ _; exact Nat.le_of_eq rfl) (hb hby at_127) (fun _ _ => ⟨rfl, e361, (by decide : 3 + 0 ≤ _), (by decide : 12 + 0 ≤ _)⟩)
      dsimp only [Pt.U, Pt.locs, Pt.cells, Pt.slots] at X362 l362 y362 z362 st362 hQ362
      subst y362 z362
      replace X362 : Stand p l e _ s mt args below meth cd T362 L362 3 12 := X362
      obtain ⟨h362, e362⟩ : ∃ z, T362.heap = z := ⟨_, rfl⟩
      rw [e362] at hQ362
      obtain ⟨qq, rfl, Nq362, eh362, hy, hno⟩ := hQ362
      have N362 : Fr n0 L362 := by rw [l362]; exact Fr.app N361 Nq362
      rw [eh362] at e362
      refine Win.st ?_ st362
      show Win p e below _ T362 (mkF mt 130 #[.val (.int len), .val (.int lo), .val (.int hi), .val (.int sel), .val (.int (4 : Int32)), .val (.int c0), .val (.int c1), .val (.int c2), .val (.int c3), .val (.ref rr), .val (.int (0 : Int32))] [(.int qq)])
      refine Win.st ?_ (fun tq kq => XS.iload X362.here hx rfl (hb hby at_130) rfl kq)
      show Win p e below _ T362 (mkF mt 132 #[.val (.int len), .val (.int lo), .val (.int hi), .val (.int sel), .val (.int (4 : Int32)), .val (.int c0), .val (.int c1), .val (.int c2), .val (.int c3), .val (.ref rr), .val (.int (0 : Int32))] [(.int (0 : Int32)), (.int qq)])
      refine Win.st ?_ (fun tq kq => XS.icmpNo X362.here hx rfl (hb hby at_132) rfl (teq (hno fun q => q.1 hc76)).2 kq)
      show Win p e below _ T362 (mkF mt 135 #[.val (.int len), .val (.int lo), .val (.int hi), .val (.int sel), .val (.int (4 : Int32)), .val (.int c0), .val (.int c1), .val (.int c2), .val (.int c3), .val (.ref rr), .val (.int (0 : Int32))] [])
      refine Win.st ?_ (fun tq kq => XS.iconst X362.here hx rfl (hb hby at_135) kq)
      show Win p e below _ T362 (mkF mt 136 #[.val (.int len), .val (.int lo), .val (.int hi), .val (.int sel), .val (.int (4 : Int32)), .val (.int c0), .val (.int c1), .val (.int c2), .val (.int c3), .val (.ref rr), .val (.int (0 : Int32))] [(.int (1 : Int32))])
      refine Win.st ?_ (fun tq kq => XS.goto X362.here hx rfl (pc0 := 136) (pc' := 140) rfl (hb hby at_136) (by decide) (by decide) kq)
      show Win p e below _ T362 (mkF mt 140 #[.val (.int len), .val (.int lo), .val (.int hi), .val (.int sel), .val (.int (4 : Int32)), .val (.int c0), .val (.int c1), .val (.int c2), .val (.int c3), .val (.ref rr), .val (.int (0 : Int32))] [(.int (1 : Int32))])
      exact Win.retNW (s := s) (vm₁ := s.vm) X362 (State.WarmedH.since (State.WarmedH.refl s) 0) (Nat.zero_le _) hx hlk e362 (t := .boolean) (z' := (1 : Int32)) hrt (by simp) (hb hby at_140) (by decide) (by decide) rfl ⟨rfl, N362⟩
    · refine Win.st ?_ (fun tq kq => XS.icmpNo X361.here hx rfl (hb hby at_76) rfl (feq hc76).1 kq)
      show Win p e below _ T361 (mkF mt 79 #[.val (.int len), .val (.int lo), .val (.int hi), .val (.int sel), .val (.int (4 : Int32)), .val (.int c0), .val (.int c1), .val (.int c2), .val (.int c3), .val (.ref rr), .unset] [])
      refine Win.st ?_ (fun tq kq => XS.iload X361.here hx rfl (hb hby at_79) rfl kq)
      show Win p e below _ T361 (mkF mt 81 #[.val (.int len), .val (.int lo), .val (.int hi), .val (.int sel), .val (.int (4 : Int32)), .val (.int c0), .val (.int c1), .val (.int c2), .val (.int c3), .val (.ref rr), .unset] [(.int (4 : Int32))])
      refine Win.st ?_ (fun tq kq => XS.iconst X361.here hx rfl (hb hby at_81) kq)
      show Win p e below _ T361 (mkF mt 82 #[.val (.int len), .val (.int lo), .val (.int hi), .val (.int sel), .val (.int (4 : Int32)), .val (.int c0), .val (.int c1), .val (.int c2), .val (.int c3), .val (.ref rr), .unset] [(.int (2 : Int32)), (.int (4 : Int32))])
      refine Win.st ?_ (fun tq kq => XS.icmpNo X361.here hx rfl (hb hby at_82) rfl (flt (by decide : ¬ ((4 : Int32) < (2 : Int32)))).1 kq)
      show Win p e below _ T361 (mkF mt 85 #[.val (.int len), .val (.int lo), .val (.int hi), .val (.int sel), .val (.int (4 : Int32)), .val (.int c0), .val (.int c1), .val (.int c2), .val (.int c3), .val (.ref rr), .unset] [])
      refine Win.st ?_ (fun tq kq => XS.iload X361.here hx rfl (hb hby at_85) rfl kq)
      show Win p e below _ T361 (mkF mt 87 #[.val (.int len), .val (.int lo), .val (.int hi), .val (.int sel), .val (.int (4 : Int32)), .val (.int c0), .val (.int c1), .val (.int c2), .val (.int c3), .val (.ref rr), .unset] [(.int c1)])
      refine Win.st ?_ (fun tq kq => XS.bipush X361.here hx rfl (hb hby at_87) kq)
      show Win p e below _ T361 (mkF mt 89 #[.val (.int len), .val (.int lo), .val (.int hi), .val (.int sel), .val (.int (4 : Int32)), .val (.int c0), .val (.int c1), .val (.int c2), .val (.int c3), .val (.ref rr), .unset] [(.int (124 : Int32)), (.int c1)])
      by_cases hc89 : c1 = (124 : Int32)
      · refine Win.st ?_ (fun tq kq => XS.icmpYes X361.here hx rfl (pc0 := 89) (pc' := 122) rfl (hb hby at_89) rfl (teq hc89).1 (by decide) (by decide) kq)
        show Win p e below _ T361 (mkF mt 122 #[.val (.int len), .val (.int lo), .val (.int hi), .val (.int sel), .val (.int (4 : Int32)), .val (.int c0), .val (.int c1), .val (.int c2), .val (.int c3), .val (.ref rr), .unset] [])
        refine Win.st ?_ (fun tq kq => XS.iconst X361.here hx rfl (hb hby at_122) kq)
        show Win p e below _ T361 (mkF mt 123 #[.val (.int len), .val (.int lo), .val (.int hi), .val (.int sel), .val (.int (4 : Int32)), .val (.int c0), .val (.int c1), .val (.int c2), .val (.int c3), .val (.ref rr), .unset] [(.int (0 : Int32))])
        refine Win.st ?_ (fun tq kq => XS.istore X361.here hx rfl (hb hby at_123) rfl (l' := #[.val (.int len), .val (.int lo), .val (.int hi), .val (.int sel), .val (.int (4 : Int32)), .val (.int c0), .val (.int c1), .val (.int c2), .val (.int c3), .val (.ref rr), .val (.int (0 : Int32))]) rfl kq)
        show Win p e below _ T361 (mkF mt 125 #[.val (.int len), .val (.int lo), .val (.int hi), .val (.int sel), .val (.int (4 : Int32)), .val (.int c0), .val (.int c1), .val (.int c2), .val (.int c3), .val (.ref rr), .val (.int (0 : Int32))] [])
        refine Win.st ?_ (fun tq kq => XS.aload X361.here hx rfl (hb hby at_125) rfl rfl kq)
        show Win p e below _ T361 (mkF mt 127 #[.val (.int len), .val (.int lo), .val (.int hi), .val (.int sel), .val (.int (4 : Int32)), .val (.int c0), .val (.int c1), .val (.int c2), .val (.int c3), .val (.ref rr), .val (.int (0 : Int32))] [(.ref rr)])
        obtain ⟨v363, _, ⟨T363, L363, k363, n363⟩, -, X363, ⟨Lc363, hQ363, l363, y363, z363⟩, st363⟩ := Jvm.LawKit.callS X361 hx (y := (⟨"com/example/foldkey/foldkey/store/Token", "holdsSystem", "(Ljava/lang/String;)Z"⟩ : MethodName)) hown (mvT hZ (hw _ (List.mem_of_getElem? (i := 30) rfl))) (mvT hZ (hw _ (List.mem_of_getElem? (i := 31) rfl))) (mvT hZ (hw _ (List.mem_of_getElem? (i := 32) rfl))) (mvT hZ (hw _ (List.mem_of_getElem? (i := 33) rfl))) (by decide) (backOf (W := 0) (rm_hsy_4 l Z a0 hw [] rr tt kt cs c0 c1 c2 c3 h361 n0 z361 E361 fv361 fc361 V361 S0 hcs O361 hB0 hB1 hB2 hB3) hZ (hw _ (List.mem_of_getElem? (i := 33) rfl)) (hw _ (List.mem_of_getElem? (i := 32) rfl)) (by decide) (by decide)) (g := (mkF mt 127 #[.val (.int len), .val (.int lo), .val (.int hi), .val (.int sel), .val (.int (4 : Int32)), .val (.int c0), .val (.int c1), .val (.int c2), .val (.int c3), .val (.ref rr), .val (.int (0 : Int32))] [(.ref rr)])) rfl (by rw [hml]; rfl) (argsL := [(.ref rr)]) (rest := []) (lenOf pd_14 rfl) rfl (by show 2 * 0 + _ ≤ _; exact Nat.le_of_eq rfl) (hb hby at_127) (fun _ _ => ⟨rfl, e361, (by decide : 3 + 0 ≤ _), (by decide : 12 + 0 ≤ _)⟩)
        dsimp only [Pt.U, Pt.locs, Pt.cells, Pt.slots] at X363 l363 y363 z363 st363 hQ363
        subst y363 z363
        replace X363 : Stand p l e _ s mt args below meth cd T363 L363 3 12 := X363
        obtain ⟨h363, e363⟩ : ∃ z, T363.heap = z := ⟨_, rfl⟩
        rw [e363] at hQ363
        obtain ⟨qq, rfl, Nq363, eh363, hy, hno⟩ := hQ363
        have N363 : Fr n0 L363 := by rw [l363]; exact Fr.app N361 Nq363
        rw [eh363] at e363
        refine Win.st ?_ st363
        show Win p e below _ T363 (mkF mt 130 #[.val (.int len), .val (.int lo), .val (.int hi), .val (.int sel), .val (.int (4 : Int32)), .val (.int c0), .val (.int c1), .val (.int c2), .val (.int c3), .val (.ref rr), .val (.int (0 : Int32))] [(.int qq)])
        refine Win.st ?_ (fun tq kq => XS.iload X363.here hx rfl (hb hby at_130) rfl kq)
        show Win p e below _ T363 (mkF mt 132 #[.val (.int len), .val (.int lo), .val (.int hi), .val (.int sel), .val (.int (4 : Int32)), .val (.int c0), .val (.int c1), .val (.int c2), .val (.int c3), .val (.ref rr), .val (.int (0 : Int32))] [(.int (0 : Int32)), (.int qq)])
        refine Win.st ?_ (fun tq kq => XS.icmpNo X363.here hx rfl (hb hby at_132) rfl (teq (hno fun q => q.2.1 hc89)).2 kq)
        show Win p e below _ T363 (mkF mt 135 #[.val (.int len), .val (.int lo), .val (.int hi), .val (.int sel), .val (.int (4 : Int32)), .val (.int c0), .val (.int c1), .val (.int c2), .val (.int c3), .val (.ref rr), .val (.int (0 : Int32))] [])
        refine Win.st ?_ (fun tq kq => XS.iconst X363.here hx rfl (hb hby at_135) kq)
        show Win p e below _ T363 (mkF mt 136 #[.val (.int len), .val (.int lo), .val (.int hi), .val (.int sel), .val (.int (4 : Int32)), .val (.int c0), .val (.int c1), .val (.int c2), .val (.int c3), .val (.ref rr), .val (.int (0 : Int32))] [(.int (1 : Int32))])
        refine Win.st ?_ (fun tq kq => XS.goto X363.here hx rfl (pc0 := 136) (pc' := 140) rfl (hb hby at_136) (by decide) (by decide) kq)
        show Win p e below _ T363 (mkF mt 140 #[.val (.int len), .val (.int lo), .val (.int hi), .val (.int sel), .val (.int (4 : Int32)), .val (.int c0), .val (.int c1), .val (.int c2), .val (.int c3), .val (.ref rr), .val (.int (0 : Int32))] [(.int (1 : Int32))])
        exact Win.retNW (s := s) (vm₁ := s.vm) X363 (State.WarmedH.since (State.WarmedH.refl s) 0) (Nat.zero_le _) hx hlk e363 (t := .boolean) (z' := (1 : Int32)) hrt (by simp) (hb hby at_140) (by decide) (by decide) rfl ⟨rfl, N363⟩
      · refine Win.st ?_ (fun tq kq => XS.icmpNo X361.here hx rfl (hb hby at_89) rfl (feq hc89).1 kq)
        show Win p e below _ T361 (mkF mt 92 #[.val (.int len), .val (.int lo), .val (.int hi), .val (.int sel), .val (.int (4 : Int32)), .val (.int c0), .val (.int c1), .val (.int c2), .val (.int c3), .val (.ref rr), .unset] [])
        refine Win.st ?_ (fun tq kq => XS.iload X361.here hx rfl (hb hby at_92) rfl kq)
        show Win p e below _ T361 (mkF mt 94 #[.val (.int len), .val (.int lo), .val (.int hi), .val (.int sel), .val (.int (4 : Int32)), .val (.int c0), .val (.int c1), .val (.int c2), .val (.int c3), .val (.ref rr), .unset] [(.int (4 : Int32))])
        refine Win.st ?_ (fun tq kq => XS.iconst X361.here hx rfl (hb hby at_94) kq)
        show Win p e below _ T361 (mkF mt 95 #[.val (.int len), .val (.int lo), .val (.int hi), .val (.int sel), .val (.int (4 : Int32)), .val (.int c0), .val (.int c1), .val (.int c2), .val (.int c3), .val (.ref rr), .unset] [(.int (3 : Int32)), (.int (4 : Int32))])
        refine Win.st ?_ (fun tq kq => XS.icmpNo X361.here hx rfl (hb hby at_95) rfl (flt (by decide : ¬ ((4 : Int32) < (3 : Int32)))).1 kq)
        show Win p e below _ T361 (mkF mt 98 #[.val (.int len), .val (.int lo), .val (.int hi), .val (.int sel), .val (.int (4 : Int32)), .val (.int c0), .val (.int c1), .val (.int c2), .val (.int c3), .val (.ref rr), .unset] [])
        refine Win.st ?_ (fun tq kq => XS.iload X361.here hx rfl (hb hby at_98) rfl kq)
        show Win p e below _ T361 (mkF mt 100 #[.val (.int len), .val (.int lo), .val (.int hi), .val (.int sel), .val (.int (4 : Int32)), .val (.int c0), .val (.int c1), .val (.int c2), .val (.int c3), .val (.ref rr), .unset] [(.int c2)])
        refine Win.st ?_ (fun tq kq => XS.bipush X361.here hx rfl (hb hby at_100) kq)
        show Win p e below _ T361 (mkF mt 102 #[.val (.int len), .val (.int lo), .val (.int hi), .val (.int sel), .val (.int (4 : Int32)), .val (.int c0), .val (.int c1), .val (.int c2), .val (.int c3), .val (.ref rr), .unset] [(.int (124 : Int32)), (.int c2)])
        by_cases hc102 : c2 = (124 : Int32)
        · refine Win.st ?_ (fun tq kq => XS.icmpYes X361.here hx rfl (pc0 := 102) (pc' := 122) rfl (hb hby at_102) rfl (teq hc102).1 (by decide) (by decide) kq)
          show Win p e below _ T361 (mkF mt 122 #[.val (.int len), .val (.int lo), .val (.int hi), .val (.int sel), .val (.int (4 : Int32)), .val (.int c0), .val (.int c1), .val (.int c2), .val (.int c3), .val (.ref rr), .unset] [])
          refine Win.st ?_ (fun tq kq => XS.iconst X361.here hx rfl (hb hby at_122) kq)
          show Win p e below _ T361 (mkF mt 123 #[.val (.int len), .val (.int lo), .val (.int hi), .val (.int sel), .val (.int (4 : Int32)), .val (.int c0), .val (.int c1), .val (.int c2), .val (.int c3), .val (.ref rr), .unset] [(.int (0 : Int32))])
          refine Win.st ?_ (fun tq kq => XS.istore X361.here hx rfl (hb hby at_123) rfl (l' := #[.val (.int len), .val (.int lo), .val (.int hi), .val (.int sel), .val (.int (4 : Int32)), .val (.int c0), .val (.int c1), .val (.int c2), .val (.int c3), .val (.ref rr), .val (.int (0 : Int32))]) rfl kq)
          show Win p e below _ T361 (mkF mt 125 #[.val (.int len), .val (.int lo), .val (.int hi), .val (.int sel), .val (.int (4 : Int32)), .val (.int c0), .val (.int c1), .val (.int c2), .val (.int c3), .val (.ref rr), .val (.int (0 : Int32))] [])
          refine Win.st ?_ (fun tq kq => XS.aload X361.here hx rfl (hb hby at_125) rfl rfl kq)
          show Win p e below _ T361 (mkF mt 127 #[.val (.int len), .val (.int lo), .val (.int hi), .val (.int sel), .val (.int (4 : Int32)), .val (.int c0), .val (.int c1), .val (.int c2), .val (.int c3), .val (.ref rr), .val (.int (0 : Int32))] [(.ref rr)])
          obtain ⟨v364, _, ⟨T364, L364, k364, n364⟩, -, X364, ⟨Lc364, hQ364, l364, y364, z364⟩, st364⟩ := Jvm.LawKit.callS X361 hx (y := (⟨"com/example/foldkey/foldkey/store/Token", "holdsSystem", "(Ljava/lang/String;)Z"⟩ : MethodName)) hown (mvT hZ (hw _ (List.mem_of_getElem? (i := 30) rfl))) (mvT hZ (hw _ (List.mem_of_getElem? (i := 31) rfl))) (mvT hZ (hw _ (List.mem_of_getElem? (i := 32) rfl))) (mvT hZ (hw _ (List.mem_of_getElem? (i := 33) rfl))) (by decide) (backOf (W := 0) (rm_hsy_4 l Z a0 hw [] rr tt kt cs c0 c1 c2 c3 h361 n0 z361 E361 fv361 fc361 V361 S0 hcs O361 hB0 hB1 hB2 hB3) hZ (hw _ (List.mem_of_getElem? (i := 33) rfl)) (hw _ (List.mem_of_getElem? (i := 32) rfl)) (by decide) (by decide)) (g := (mkF mt 127 #[.val (.int len), .val (.int lo), .val (.int hi), .val (.int sel), .val (.int (4 : Int32)), .val (.int c0), .val (.int c1), .val (.int c2), .val (.int c3), .val (.ref rr), .val (.int (0 : Int32))] [(.ref rr)])) rfl (by rw [hml]; rfl) (argsL := [(.ref rr)]) (rest := []) (lenOf pd_14 rfl) rfl (by show 2 * 0 + _ ≤ _; exact Nat.le_of_eq rfl) (hb hby at_127) (fun _ _ => ⟨rfl, e361, (by decide : 3 + 0 ≤ _), (by decide : 12 + 0 ≤ _)⟩)
          dsimp only [Pt.U, Pt.locs, Pt.cells, Pt.slots] at X364 l364 y364 z364 st364 hQ364
          subst y364 z364
          replace X364 : Stand p l e _ s mt args below meth cd T364 L364 3 12 := X364
          obtain ⟨h364, e364⟩ : ∃ z, T364.heap = z := ⟨_, rfl⟩
          rw [e364] at hQ364
          obtain ⟨qq, rfl, Nq364, eh364, hy, hno⟩ := hQ364
          have N364 : Fr n0 L364 := by rw [l364]; exact Fr.app N361 Nq364
          rw [eh364] at e364
          refine Win.st ?_ st364
          show Win p e below _ T364 (mkF mt 130 #[.val (.int len), .val (.int lo), .val (.int hi), .val (.int sel), .val (.int (4 : Int32)), .val (.int c0), .val (.int c1), .val (.int c2), .val (.int c3), .val (.ref rr), .val (.int (0 : Int32))] [(.int qq)])
          refine Win.st ?_ (fun tq kq => XS.iload X364.here hx rfl (hb hby at_130) rfl kq)
          show Win p e below _ T364 (mkF mt 132 #[.val (.int len), .val (.int lo), .val (.int hi), .val (.int sel), .val (.int (4 : Int32)), .val (.int c0), .val (.int c1), .val (.int c2), .val (.int c3), .val (.ref rr), .val (.int (0 : Int32))] [(.int (0 : Int32)), (.int qq)])
          refine Win.st ?_ (fun tq kq => XS.icmpNo X364.here hx rfl (hb hby at_132) rfl (teq (hno fun q => q.2.2.1 hc102)).2 kq)
          show Win p e below _ T364 (mkF mt 135 #[.val (.int len), .val (.int lo), .val (.int hi), .val (.int sel), .val (.int (4 : Int32)), .val (.int c0), .val (.int c1), .val (.int c2), .val (.int c3), .val (.ref rr), .val (.int (0 : Int32))] [])
          refine Win.st ?_ (fun tq kq => XS.iconst X364.here hx rfl (hb hby at_135) kq)
          show Win p e below _ T364 (mkF mt 136 #[.val (.int len), .val (.int lo), .val (.int hi), .val (.int sel), .val (.int (4 : Int32)), .val (.int c0), .val (.int c1), .val (.int c2), .val (.int c3), .val (.ref rr), .val (.int (0 : Int32))] [(.int (1 : Int32))])
          refine Win.st ?_ (fun tq kq => XS.goto X364.here hx rfl (pc0 := 136) (pc' := 140) rfl (hb hby at_136) (by decide) (by decide) kq)
          show Win p e below _ T364 (mkF mt 140 #[.val (.int len), .val (.int lo), .val (.int hi), .val (.int sel), .val (.int (4 : Int32)), .val (.int c0), .val (.int c1), .val (.int c2), .val (.int c3), .val (.ref rr), .val (.int (0 : Int32))] [(.int (1 : Int32))])
          exact Win.retNW (s := s) (vm₁ := s.vm) X364 (State.WarmedH.since (State.WarmedH.refl s) 0) (Nat.zero_le _) hx hlk e364 (t := .boolean) (z' := (1 : Int32)) hrt (by simp) (hb hby at_140) (by decide) (by decide) rfl ⟨rfl, N364⟩
        · refine Win.st ?_ (fun tq kq => XS.icmpNo X361.here hx rfl (hb hby at_102) rfl (feq hc102).1 kq)
          show Win p e below _ T361 (mkF mt 105 #[.val (.int len), .val (.int lo), .val (.int hi), .val (.int sel), .val (.int (4 : Int32)), .val (.int c0), .val (.int c1), .val (.int c2), .val (.int c3), .val (.ref rr), .unset] [])
          refine Win.st ?_ (fun tq kq => XS.iload X361.here hx rfl (hb hby at_105) rfl kq)
          show Win p e below _ T361 (mkF mt 107 #[.val (.int len), .val (.int lo), .val (.int hi), .val (.int sel), .val (.int (4 : Int32)), .val (.int c0), .val (.int c1), .val (.int c2), .val (.int c3), .val (.ref rr), .unset] [(.int (4 : Int32))])
          refine Win.st ?_ (fun tq kq => XS.iconst X361.here hx rfl (hb hby at_107) kq)
          show Win p e below _ T361 (mkF mt 108 #[.val (.int len), .val (.int lo), .val (.int hi), .val (.int sel), .val (.int (4 : Int32)), .val (.int c0), .val (.int c1), .val (.int c2), .val (.int c3), .val (.ref rr), .unset] [(.int (4 : Int32)), (.int (4 : Int32))])
          refine Win.st ?_ (fun tq kq => XS.icmpNo X361.here hx rfl (hb hby at_108) rfl (flt (Int32.lt_irrefl)).1 kq)
          show Win p e below _ T361 (mkF mt 111 #[.val (.int len), .val (.int lo), .val (.int hi), .val (.int sel), .val (.int (4 : Int32)), .val (.int c0), .val (.int c1), .val (.int c2), .val (.int c3), .val (.ref rr), .unset] [])
          refine Win.st ?_ (fun tq kq => XS.iload X361.here hx rfl (hb hby at_111) rfl kq)
          show Win p e below _ T361 (mkF mt 113 #[.val (.int len), .val (.int lo), .val (.int hi), .val (.int sel), .val (.int (4 : Int32)), .val (.int c0), .val (.int c1), .val (.int c2), .val (.int c3), .val (.ref rr), .unset] [(.int c3)])
          refine Win.st ?_ (fun tq kq => XS.bipush X361.here hx rfl (hb hby at_113) kq)
          show Win p e below _ T361 (mkF mt 115 #[.val (.int len), .val (.int lo), .val (.int hi), .val (.int sel), .val (.int (4 : Int32)), .val (.int c0), .val (.int c1), .val (.int c2), .val (.int c3), .val (.ref rr), .unset] [(.int (124 : Int32)), (.int c3)])
          by_cases hc115 : c3 = (124 : Int32)
          · refine Win.st ?_ (fun tq kq => XS.icmpYes X361.here hx rfl (pc0 := 115) (pc' := 122) rfl (hb hby at_115) rfl (teq hc115).1 (by decide) (by decide) kq)
            show Win p e below _ T361 (mkF mt 122 #[.val (.int len), .val (.int lo), .val (.int hi), .val (.int sel), .val (.int (4 : Int32)), .val (.int c0), .val (.int c1), .val (.int c2), .val (.int c3), .val (.ref rr), .unset] [])
            refine Win.st ?_ (fun tq kq => XS.iconst X361.here hx rfl (hb hby at_122) kq)
            show Win p e below _ T361 (mkF mt 123 #[.val (.int len), .val (.int lo), .val (.int hi), .val (.int sel), .val (.int (4 : Int32)), .val (.int c0), .val (.int c1), .val (.int c2), .val (.int c3), .val (.ref rr), .unset] [(.int (0 : Int32))])
            refine Win.st ?_ (fun tq kq => XS.istore X361.here hx rfl (hb hby at_123) rfl (l' := #[.val (.int len), .val (.int lo), .val (.int hi), .val (.int sel), .val (.int (4 : Int32)), .val (.int c0), .val (.int c1), .val (.int c2), .val (.int c3), .val (.ref rr), .val (.int (0 : Int32))]) rfl kq)
            show Win p e below _ T361 (mkF mt 125 #[.val (.int len), .val (.int lo), .val (.int hi), .val (.int sel), .val (.int (4 : Int32)), .val (.int c0), .val (.int c1), .val (.int c2), .val (.int c3), .val (.ref rr), .val (.int (0 : Int32))] [])
            refine Win.st ?_ (fun tq kq => XS.aload X361.here hx rfl (hb hby at_125) rfl rfl kq)
            show Win p e below _ T361 (mkF mt 127 #[.val (.int len), .val (.int lo), .val (.int hi), .val (.int sel), .val (.int (4 : Int32)), .val (.int c0), .val (.int c1), .val (.int c2), .val (.int c3), .val (.ref rr), .val (.int (0 : Int32))] [(.ref rr)])
            obtain ⟨v365, _, ⟨T365, L365, k365, n365⟩, -, X365, ⟨Lc365, hQ365, l365, y365, z365⟩, st365⟩ := Jvm.LawKit.callS X361 hx (y := (⟨"com/example/foldkey/foldkey/store/Token", "holdsSystem", "(Ljava/lang/String;)Z"⟩ : MethodName)) hown (mvT hZ (hw _ (List.mem_of_getElem? (i := 30) rfl))) (mvT hZ (hw _ (List.mem_of_getElem? (i := 31) rfl))) (mvT hZ (hw _ (List.mem_of_getElem? (i := 32) rfl))) (mvT hZ (hw _ (List.mem_of_getElem? (i := 33) rfl))) (by decide) (backOf (W := 0) (rm_hsy_4 l Z a0 hw [] rr tt kt cs c0 c1 c2 c3 h361 n0 z361 E361 fv361 fc361 V361 S0 hcs O361 hB0 hB1 hB2 hB3) hZ (hw _ (List.mem_of_getElem? (i := 33) rfl)) (hw _ (List.mem_of_getElem? (i := 32) rfl)) (by decide) (by decide)) (g := (mkF mt 127 #[.val (.int len), .val (.int lo), .val (.int hi), .val (.int sel), .val (.int (4 : Int32)), .val (.int c0), .val (.int c1), .val (.int c2), .val (.int c3), .val (.ref rr), .val (.int (0 : Int32))] [(.ref rr)])) rfl (by rw [hml]; rfl) (argsL := [(.ref rr)]) (rest := []) (lenOf pd_14 rfl) rfl (by show 2 * 0 + _ ≤ _; exact Nat.le_of_eq rfl) (hb hby at_127) (fun _ _ => ⟨rfl, e361, (by decide : 3 + 0 ≤ _), (by decide : 12 + 0 ≤ _)⟩)
            dsimp only [Pt.U, Pt.locs, Pt.cells, Pt.slots] at X365 l365 y365 z365 st365 hQ365
            subst y365 z365
            replace X365 : Stand p l e _ s mt args below meth cd T365 L365 3 12 := X365
            obtain ⟨h365, e365⟩ : ∃ z, T365.heap = z := ⟨_, rfl⟩
            rw [e365] at hQ365
            obtain ⟨qq, rfl, Nq365, eh365, hy, hno⟩ := hQ365
            have N365 : Fr n0 L365 := by rw [l365]; exact Fr.app N361 Nq365
            rw [eh365] at e365
            refine Win.st ?_ st365
            show Win p e below _ T365 (mkF mt 130 #[.val (.int len), .val (.int lo), .val (.int hi), .val (.int sel), .val (.int (4 : Int32)), .val (.int c0), .val (.int c1), .val (.int c2), .val (.int c3), .val (.ref rr), .val (.int (0 : Int32))] [(.int qq)])
            refine Win.st ?_ (fun tq kq => XS.iload X365.here hx rfl (hb hby at_130) rfl kq)
            show Win p e below _ T365 (mkF mt 132 #[.val (.int len), .val (.int lo), .val (.int hi), .val (.int sel), .val (.int (4 : Int32)), .val (.int c0), .val (.int c1), .val (.int c2), .val (.int c3), .val (.ref rr), .val (.int (0 : Int32))] [(.int (0 : Int32)), (.int qq)])
            refine Win.st ?_ (fun tq kq => XS.icmpNo X365.here hx rfl (hb hby at_132) rfl (teq (hno fun q => q.2.2.2 hc115)).2 kq)
            show Win p e below _ T365 (mkF mt 135 #[.val (.int len), .val (.int lo), .val (.int hi), .val (.int sel), .val (.int (4 : Int32)), .val (.int c0), .val (.int c1), .val (.int c2), .val (.int c3), .val (.ref rr), .val (.int (0 : Int32))] [])
            refine Win.st ?_ (fun tq kq => XS.iconst X365.here hx rfl (hb hby at_135) kq)
            show Win p e below _ T365 (mkF mt 136 #[.val (.int len), .val (.int lo), .val (.int hi), .val (.int sel), .val (.int (4 : Int32)), .val (.int c0), .val (.int c1), .val (.int c2), .val (.int c3), .val (.ref rr), .val (.int (0 : Int32))] [(.int (1 : Int32))])
            refine Win.st ?_ (fun tq kq => XS.goto X365.here hx rfl (pc0 := 136) (pc' := 140) rfl (hb hby at_136) (by decide) (by decide) kq)
            show Win p e below _ T365 (mkF mt 140 #[.val (.int len), .val (.int lo), .val (.int hi), .val (.int sel), .val (.int (4 : Int32)), .val (.int c0), .val (.int c1), .val (.int c2), .val (.int c3), .val (.ref rr), .val (.int (0 : Int32))] [(.int (1 : Int32))])
            exact Win.retNW (s := s) (vm₁ := s.vm) X365 (State.WarmedH.since (State.WarmedH.refl s) 0) (Nat.zero_le _) hx hlk e365 (t := .boolean) (z' := (1 : Int32)) hrt (by simp) (hb hby at_140) (by decide) (by decide) rfl ⟨rfl, N365⟩
          · refine Win.st ?_ (fun tq kq => XS.icmpNo X361.here hx rfl (hb hby at_115) rfl (feq hc115).1 kq)
            show Win p e below _ T361 (mkF mt 118 #[.val (.int len), .val (.int lo), .val (.int hi), .val (.int sel), .val (.int (4 : Int32)), .val (.int c0), .val (.int c1), .val (.int c2), .val (.int c3), .val (.ref rr), .unset] [])
            refine Win.st ?_ (fun tq kq => XS.iconst X361.here hx rfl (hb hby at_118) kq)
            show Win p e below _ T361 (mkF mt 119 #[.val (.int len), .val (.int lo), .val (.int hi), .val (.int sel), .val (.int (4 : Int32)), .val (.int c0), .val (.int c1), .val (.int c2), .val (.int c3), .val (.ref rr), .unset] [(.int (1 : Int32))])
            refine Win.st ?_ (fun tq kq => XS.goto X361.here hx rfl (pc0 := 119) (pc' := 123) rfl (hb hby at_119) (by decide) (by decide) kq)
            show Win p e below _ T361 (mkF mt 123 #[.val (.int len), .val (.int lo), .val (.int hi), .val (.int sel), .val (.int (4 : Int32)), .val (.int c0), .val (.int c1), .val (.int c2), .val (.int c3), .val (.ref rr), .unset] [(.int (1 : Int32))])
            refine Win.st ?_ (fun tq kq => XS.istore X361.here hx rfl (hb hby at_123) rfl (l' := #[.val (.int len), .val (.int lo), .val (.int hi), .val (.int sel), .val (.int (4 : Int32)), .val (.int c0), .val (.int c1), .val (.int c2), .val (.int c3), .val (.ref rr), .val (.int (1 : Int32))]) rfl kq)
            show Win p e below _ T361 (mkF mt 125 #[.val (.int len), .val (.int lo), .val (.int hi), .val (.int sel), .val (.int (4 : Int32)), .val (.int c0), .val (.int c1), .val (.int c2), .val (.int c3), .val (.ref rr), .val (.int (1 : Int32))] [])
            refine Win.st ?_ (fun tq kq => XS.aload X361.here hx rfl (hb hby at_125) rfl rfl kq)
            show Win p e below _ T361 (mkF mt 127 #[.val (.int len), .val (.int lo), .val (.int hi), .val (.int sel), .val (.int (4 : Int32)), .val (.int c0), .val (.int c1), .val (.int c2), .val (.int c3), .val (.ref rr), .val (.int (1 : Int32))] [(.ref rr)])
            obtain ⟨v366, _, ⟨T366, L366, k366, n366⟩, -, X366, ⟨Lc366, hQ366, l366, y366, z366⟩, st366⟩ := Jvm.LawKit.callS X361 hx (y := (⟨"com/example/foldkey/foldkey/store/Token", "holdsSystem", "(Ljava/lang/String;)Z"⟩ : MethodName)) hown (mvT hZ (hw _ (List.mem_of_getElem? (i := 30) rfl))) (mvT hZ (hw _ (List.mem_of_getElem? (i := 31) rfl))) (mvT hZ (hw _ (List.mem_of_getElem? (i := 32) rfl))) (mvT hZ (hw _ (List.mem_of_getElem? (i := 33) rfl))) (by decide) (backOf (W := 0) (rm_hsy_4 l Z a0 hw [] rr tt kt cs c0 c1 c2 c3 h361 n0 z361 E361 fv361 fc361 V361 S0 hcs O361 hB0 hB1 hB2 hB3) hZ (hw _ (List.mem_of_getElem? (i := 33) rfl)) (hw _ (List.mem_of_getElem? (i := 32) rfl)) (by decide) (by decide)) (g := (mkF mt 127 #[.val (.int len), .val (.int lo), .val (.int hi), .val (.int sel), .val (.int (4 : Int32)), .val (.int c0), .val (.int c1), .val (.int c2), .val (.int c3), .val (.ref rr), .val (.int (1 : Int32))] [(.ref rr)])) rfl (by rw [hml]; rfl) (argsL := [(.ref rr)]) (rest := []) (lenOf pd_14 rfl) rfl (by show 2 * 0 + _ ≤ _; exact Nat.le_of_eq rfl) (hb hby at_127) (fun _ _ => ⟨rfl, e361, (by decide : 3 + 0 ≤ _), (by decide : 12 + 0 ≤ _)⟩)
            dsimp only [Pt.U, Pt.locs, Pt.cells, Pt.slots] at X366 l366 y366 z366 st366 hQ366
            subst y366 z366
            replace X366 : Stand p l e _ s mt args below meth cd T366 L366 3 12 := X366
            obtain ⟨h366, e366⟩ : ∃ z, T366.heap = z := ⟨_, rfl⟩
            rw [e366] at hQ366
            obtain ⟨qq, rfl, Nq366, eh366, hy, hno⟩ := hQ366
            have N366 : Fr n0 L366 := by rw [l366]; exact Fr.app N361 Nq366
            rw [eh366] at e366
            refine Win.st ?_ st366
            show Win p e below _ T366 (mkF mt 130 #[.val (.int len), .val (.int lo), .val (.int hi), .val (.int sel), .val (.int (4 : Int32)), .val (.int c0), .val (.int c1), .val (.int c2), .val (.int c3), .val (.ref rr), .val (.int (1 : Int32))] [(.int qq)])
            refine Win.st ?_ (fun tq kq => XS.iload X366.here hx rfl (hb hby at_130) rfl kq)
            show Win p e below _ T366 (mkF mt 132 #[.val (.int len), .val (.int lo), .val (.int hi), .val (.int sel), .val (.int (4 : Int32)), .val (.int c0), .val (.int c1), .val (.int c2), .val (.int c3), .val (.ref rr), .val (.int (1 : Int32))] [(.int (1 : Int32)), (.int qq)])
            refine Win.st ?_ (fun tq kq => XS.icmpNo X366.here hx rfl (hb hby at_132) rfl (teq (hy ⟨hc76, hc89, hc102, hc115⟩)).2 kq)
            show Win p e below _ T366 (mkF mt 135 #[.val (.int len), .val (.int lo), .val (.int hi), .val (.int sel), .val (.int (4 : Int32)), .val (.int c0), .val (.int c1), .val (.int c2), .val (.int c3), .val (.ref rr), .val (.int (1 : Int32))] [])
            refine Win.st ?_ (fun tq kq => XS.iconst X366.here hx rfl (hb hby at_135) kq)
            show Win p e below _ T366 (mkF mt 136 #[.val (.int len), .val (.int lo), .val (.int hi), .val (.int sel), .val (.int (4 : Int32)), .val (.int c0), .val (.int c1), .val (.int c2), .val (.int c3), .val (.ref rr), .val (.int (1 : Int32))] [(.int (1 : Int32))])
            refine Win.st ?_ (fun tq kq => XS.goto X366.here hx rfl (pc0 := 136) (pc' := 140) rfl (hb hby at_136) (by decide) (by decide) kq)
            show Win p e below _ T366 (mkF mt 140 #[.val (.int len), .val (.int lo), .val (.int hi), .val (.int sel), .val (.int (4 : Int32)), .val (.int c0), .val (.int c1), .val (.int c2), .val (.int c3), .val (.ref rr), .val (.int (1 : Int32))] [(.int (1 : Int32))])
            exact Win.retNW (s := s) (vm₁ := s.vm) X366 (State.WarmedH.since (State.WarmedH.refl s) 0) (Nat.zero_le _) hx hlk e366 (t := .boolean) (z' := (1 : Int32)) hrt (by simp) (hb hby at_140) (by decide) (by decide) rfl ⟨rfl, N366⟩
set_option maxRecDepth 65536 in
set_option maxHeartbeats 40000000 in
theorem comes_1 {Post : Tables → Env → Array Value → State → Outcome → State → Prop} (hpost : ∀ tb e args s v u, (limb_1_1.after args s (.returned v) u = true ∧ limb_1_2.after args s (.returned v) u = true ∧ True) → ReturnedEndW s (.returned v) u (Jvm.fieldLocs frame_1_writes args s ++ Jvm.arrayLocs frame_1_arrays args s ++ Jvm.staticLocs frame_1_statics s) 16 1152 → Post tb e args s (.returned v) u) :
    ArmFor flags0 classFile x code maxLocals ret World_1 tables_1 room_1 Calls_1 rest_1 Pre_1 Post := by
  intro l hfl _ _ p e ha hc hk s m args below hf hA hF happ hP
  obtain ⟨hcalls, hrest, hpre⟩ := hP
  obtain ⟨-, -, -, hnamed, -, -, -, hat⟩ := (Spec.applies_iff hf).mp happ
  obtain ⟨hg, hn⟩ := and_e (Cond.before_iff.mp (show (Jvm.Cond.and given_1 narrow_1).before args s = true from hpre))
  obtain ⟨ga0, gb0⟩ := and_e hg
  obtain ⟨ga1, gb1⟩ := and_e gb0
  obtain ⟨ga2, gb2⟩ := and_e gb1
  obtain ⟨ga3, gb3⟩ := and_e gb2
  obtain ⟨w0, w1, w2, w3, rfl⟩ : ∃ w0 w1 w2 w3 : Value, args = #[w0, w1, w2, w3] := by
    have hs : args.size = 4 := by simpa [Cond.value, given_1] using ga0
    obtain ⟨L⟩ := args
    match L, hs with
    | [w0, w1, w2, w3], _ => exact ⟨w0, w1, w2, w3, rfl⟩
  have hw := fun d (hd : d ∈ tables_1) => atoms_spec (ws := Jvm.Cond.code x code maxLocals ret :: tables_1) hat d (List.mem_cons_of_mem _ hd)
  have hfit : Fit s := fun {y c} hc i hi => by
    obtain ⟨ha, rfl⟩ := Array.getElem?_eq_some_iff.mp hc
    have q := List.all_eq_true.mp ((Array.all_eq_true_iff_forall_mem.mp hF) _ (Array.getElem_mem ha)) i (List.mem_range.mpr hi)
    simpa [Array.getElem?_eq_getElem hi] using q
  obtain ⟨hsets, hown0⟩ := atoms_of _ (rest_1_c_eq ▸ (show rest_1_c.before _ s = true from hrest))
  have hr0 := Cond.before_iff.mp hown0
  obtain ⟨i0, ei0⟩ := is_v ga1
  obtain rfl : w0 = (.int i0) := Option.some.inj ei0
  obtain ⟨i1, ei1⟩ := is_v ga2
  obtain rfl : w1 = (.int i1) := Option.some.inj ei1
  obtain ⟨i2, ei2⟩ := is_v ga3
  obtain rfl : w2 = (.int i2) := Option.some.inj ei2
  obtain ⟨i3, ei3⟩ := is_v gb3
  obtain rfl : w3 = (.int i3) := Option.some.inj ei3
  obtain ⟨cs, hcs0⟩ := is_v (Cond.before_iff.mp (hsets _ (List.mem_of_getElem? (i := 1) rfl)))
  have hcs : ¬ cs = (0 : Int32) := fun q => by
    have z := Cond.before_iff.mp (hsets _ (List.mem_of_getElem? (i := 2) rfl))
    have z2 := not_v z
    have z3 := eq_i hcs0 (Term.int_eval (0 : Int32)) (by rw [q])
    rw [z3] at z2
    simp at z2
  have S0 := Sta.start hcs0 (Or.inl (hsets _ (List.mem_of_getElem? (i := 0) rfl)))
  have hC : CHv s own_EL s.vm s.heap := CHv.start (own_EW hw) (fun p hp => by
    cases List.mem_singleton.mp hp
    exact hcalls.1 _ (List.mem_of_getElem? (i := 0) rfl)) (hsets _ (List.mem_of_getElem? (i := 2) rfl)) (hw _ (List.mem_of_getElem? (i := 23) rfl)) (hw _ (List.mem_of_getElem? (i := 9) rfl))
  obtain ⟨n, o, h1, h2, h3, _, L, rfl, ⟨rfl, N⟩, hq⟩ := rm_law l s _ hw tables_1 i0 i1 i2 i3 cs s.heap s.heap.size (Nat.le_refl _) S0 hcs (Old.start s) p e ha hc hk s m _ below hf ((Spec.applies_iff_loose hf).mp happ).1 ⟨rfl, State.Warmed39.refl s, rfl, hC⟩ trivial
  refine ⟨n, _, h1, h2, h3, hpost _ _ _ _ _ _ ⟨Cond.after_iff.mpr rfl, Cond.after_iff.mpr (eq_i res_at (Term.int_eval (1)) rfl), trivial⟩ ⟨hq.1, hq.2.1, hq.2.2.1, (hq.2.2.2.sift fun y hy => Or.inr (N y hy)).mono (by decide) (by decide)⟩⟩
theorem main_1_1 : Claimed_1_1 := comes_1 fun _ _ _ _ _ _ h hF => ⟨h.1, hF⟩
theorem main_1_2 : Claimed_1_2 := comes_1 fun _ _ _ _ _ _ h hF => ⟨h.2.1, hF⟩
end Jvm.Pilot.@@N@@
namespace Jvm.Pilot.@@N@@
open Jvm Jvm.ClassFile Sem Op Lib Jvm.Free Jvm.Stand Jvm.Pilot.@@N@@.Jvm.D
/-! MADE BY PROGRAM (witnessworld.py) out of the Statement's table words and the real class files: 21 classes; the members and pool entries that the words name. The judged class is class 1, her method 1. -/
namespace start1
open Jvm.ClassFile
def u (s : String) : CpInfo := .utf8 (stringToUtf16 s)
/-- a pool by its gaps: so many unusable entries, then the entry; so many at the end -/
def gap : Nat → List CpInfo → List CpInfo
  | 0, r => r
  | n + 1, r => .unusable :: gap n r
def poolList (es : List (Nat × CpInfo)) (last : Nat) : List CpInfo := es.foldr (fun e r => gap e.1 (e.2 :: r)) (gap last [])
def pool (es : List (Nat × CpInfo)) (last : Nat) : Array CpInfo := ⟨poolList es last⟩
def fileOf (pool : Array CpInfo) (this : Nat) (attrs : Array Attribute := #[]) (ms : Array MethodInfo := #[]) (fl : Nat := 33) (sup : Nat := 0) (ifs : Array Nat := #[]) (fds : Array FieldInfo := #[]) : ClassFile where
  minorVersion := 0
  majorVersion := 65
  constantPool := pool
  accessFlags := fl
  thisClass := this
  superClass := sup
  interfaces := ifs
  fields := fds
  methods := ms
  attributes := attrs
def plain (name : String) (sup : Option ClassId) : Class where
  name := name
  kind := .ordinary
  loader := none
  accessFlags := 33
  super := sup
  interfaces := #[]
  cf := none
  fields := #[]
  methods := #[]
  instanceTypes := #[]
  staticTypes := #[]
  resolved := #[]
  callSites := []
  init := .initialized
  statics := none
  mirror := none

def pool0 : Array CpInfo := pool [(5, u "<init>"), (0, u "()V"), (1, .class_ 10), (1, u "java/lang/Object")] 113

def k0c0 : Code := { maxStack := 0, maxLocals := 1, code := object_method_1_code, exceptionTable := #[], attributes := #[] }
def k0m0 : Method := { name := "<init>", desc := "()V", sig := { parameters := [], returnType := none }, accessFlags := 1, code := some k0c0 }
/-- java/lang/Object -/
def k0 : Class := { plain "java/lang/Object" none with
  accessFlags := 33
  interfaces := #[]
  cf := some (fileOf pool0 8 #[] #[{ accessFlags := 1, nameIndex := 5, descriptorIndex := 6, attributes := #[] }] 33 0 #[] #[])
  fields := #[]
  methods := #[k0m0]
  instanceTypes := #[]
  staticTypes := #[]
  resolved := Array.replicate 124 none
  statics := none }

def pool1 : Array CpInfo := pool [(2, .class_ 4), (1, u "java/lang/Object"), (0, u "<init>"), (0, u "()V"), (0, .integer 2147483647), (0, .methodref 9 10), (0, .class_ 11), (0, .nameAndType 12 13), (0, u "com/example/foldkey/foldkey/store/TokenHoldsSystemPinLaw"), (0, u "pick"), (0, u "(II)C"), (0, .methodref 9 15), (0, .nameAndType 16 17), (0, u "make"), (0, u "(ICCCC)Ljava/lang/String;"), (0, .methodref 19 20), (0, .class_ 21), (0, .nameAndType 22 23), (0, u "com/example/foldkey/foldkey/store/Token"), (0, u "holdsSystem"), (0, u "(Ljava/lang/String;)Z"), (0, .class_ 25), (0, u "java/lang/String"), (0, .methodref 24 27), (0, .nameAndType 5 28), (0, u "([C)V"), (2, u "law"), (0, u "(IIII)Z")] 3

def k1m0 : Method := { name := "<init>", desc := "()V", sig := { parameters := [], returnType := none }, accessFlags := 2, code := none }
def k1c1 : Code := { maxStack := 5, maxLocals := 11, code := code, exceptionTable := #[], attributes := #[] }
def k1m1 : Method := { name := "law", desc := "(IIII)Z", sig := { parameters := [.int, .int, .int, .int], returnType := some .boolean }, accessFlags := 9, code := some k1c1 }
def k1c2 : Code := { maxStack := 2, maxLocals := 2, code := method_3_code, exceptionTable := #[], attributes := #[] }
def k1m2 : Method := { name := "pick", desc := "(II)C", sig := { parameters := [.int, .int], returnType := some .char }, accessFlags := 10, code := some k1c2 }
def k1c3 : Code := { maxStack := 6, maxLocals := 5, code := method_4_code, exceptionTable := #[], attributes := #[] }
def k1m3 : Method := { name := "make", desc := "(ICCCC)Ljava/lang/String;", sig := { parameters := [.int, .char, .char, .char, .char], returnType := some (.object "java/lang/String") }, accessFlags := 10, code := some k1c3 }
/-- com/example/foldkey/foldkey/store/TokenHoldsSystemPinLaw -/
def k1 : Class := { plain "com/example/foldkey/foldkey/store/TokenHoldsSystemPinLaw" (some 0) with
  accessFlags := 49
  interfaces := #[]
  cf := some (fileOf pool1 9 #[] #[{ accessFlags := 2, nameIndex := 5, descriptorIndex := 6, attributes := #[] }, { accessFlags := 9, nameIndex := 31, descriptorIndex := 32, attributes := #[] }, { accessFlags := 10, nameIndex := 12, descriptorIndex := 13, attributes := #[] }, { accessFlags := 10, nameIndex := 16, descriptorIndex := 17, attributes := #[] }] 49 2 #[] #[])
  fields := #[]
  methods := #[k1m0, k1m1, k1m2, k1m3]
  instanceTypes := #[]
  staticTypes := #[]
  resolved := Array.replicate 36 none
  statics := none }

def pool2 : Array CpInfo := pool [(1, .class_ 2), (0, u "java/io/Serializable"), (0, .class_ 4), (0, u "java/lang/Object")] 2

/-- java/io/Serializable -/
def k2 : Class := { plain "java/io/Serializable" (some 0) with
  accessFlags := 1537
  interfaces := #[]
  cf := some (fileOf pool2 1 #[] #[] 1537 3 #[] #[])
  fields := #[]
  methods := #[]
  instanceTypes := #[]
  staticTypes := #[]
  resolved := Array.replicate 7 none
  statics := none }

def pool3 : Array CpInfo := pool [(1, .class_ 2), (0, u "java/lang/Comparable"), (0, .class_ 4), (0, u "java/lang/Object")] 7

/-- java/lang/Comparable -/
def k3 : Class := { plain "java/lang/Comparable" (some 0) with
  accessFlags := 1537
  interfaces := #[]
  cf := some (fileOf pool3 1 #[] #[] 1537 3 #[] #[])
  fields := #[]
  methods := #[]
  instanceTypes := #[]
  staticTypes := #[]
  resolved := Array.replicate 12 none
  statics := none }

def pool4 : Array CpInfo := pool [(2, .class_ 4), (1, u "java/lang/CharSequence"), (42, .class_ 48), (0, u "java/lang/CharSequence$1CodePointIterator"), (10, .class_ 60), (0, u "java/lang/CharSequence$1CharIterator"), (5, .class_ 67), (0, u "java/lang/Object")] 63

/-- java/lang/CharSequence -/
def k4 : Class := { plain "java/lang/CharSequence" (some 0) with
  accessFlags := 1537
  interfaces := #[]
  cf := some (fileOf pool4 2 #[.nestMembers #[47, 59]] #[] 1537 66 #[] #[])
  fields := #[]
  methods := #[]
  instanceTypes := #[]
  staticTypes := #[]
  resolved := Array.replicate 131 none
  statics := none }

def pool5 : Array CpInfo := pool [(1, .class_ 2), (0, u "java/lang/constant/Constable"), (0, .class_ 4), (0, u "java/lang/Object")] 6

/-- java/lang/constant/Constable -/
def k5 : Class := { plain "java/lang/constant/Constable" (some 0) with
  accessFlags := 1537
  interfaces := #[]
  cf := some (fileOf pool5 1 #[] #[] 1537 3 #[] #[])
  fields := #[]
  methods := #[]
  instanceTypes := #[]
  staticTypes := #[]
  resolved := Array.replicate 11 none
  statics := none }

def pool6 : Array CpInfo := pool [(1, .class_ 2), (0, u "java/lang/constant/ConstantDesc"), (0, .class_ 4), (0, u "java/lang/Object")] 32

/-- java/lang/constant/ConstantDesc -/
def k6 : Class := { plain "java/lang/constant/ConstantDesc" (some 0) with
  accessFlags := 1537
  interfaces := #[]
  cf := some (fileOf pool6 1 #[] #[] 1537 3 #[] #[])
  fields := #[]
  methods := #[]
  instanceTypes := #[]
  staticTypes := #[]
  resolved := Array.replicate 37 none
  statics := none }

def pool7 : Array CpInfo := pool [(1, .methodref 2 3), (0, .class_ 4), (0, .nameAndType 5 6), (0, u "java/lang/Object"), (0, u "<init>"), (0, u "()V"), (0, .string 8), (0, u ""), (0, .fieldref 10 11), (0, .class_ 12), (0, .nameAndType 13 14), (0, u "java/lang/String"), (0, u "value"), (0, u "[B"), (0, .fieldref 10 16), (0, .nameAndType 17 18), (0, u "coder"), (0, u "B"), (2, u "hash"), (0, u "I"), (2, u "hashIsZero"), (0, u "Z"), (0, .methodref 10 28), (0, .nameAndType 5 29), (0, u "([CIILjava/lang/Void;)V"), (8, .fieldref 10 39), (0, .nameAndType 40 26), (0, u "COMPACT_STRINGS"), (1, .class_ 44), (1, u "java/lang/StringUTF16"), (0, u "compress"), (1, .methodref 42 48), (0, .nameAndType 49 50), (0, u "coderFromArrayLen"), (0, u "([BI)B"), (56, .class_ 109), (1, u "java/lang/StringLatin1"), (32, u "()Z"), (34, .methodref 42 178), (0, .nameAndType 45 179), (0, u "([CII)[B"), (154, u "()I"), (0, .methodref 10 336), (0, .nameAndType 17 337), (0, u "()B"), (154, .methodref 10 493), (0, .nameAndType 494 142), (0, u "isLatin1"), (10, .methodref 10 506), (0, .nameAndType 507 334), (0, u "length"), (67, .class_ 576), (0, u "java/lang/CharSequence"), (22, u "CASE_INSENSITIVE_ORDER"), (0, u "Ljava/util/Comparator;"), (32, .methodref 10 634), (0, .nameAndType 635 636), (0, u "indexOf"), (0, u "(II)I"), (0, .methodref 107 638), (0, .nameAndType 635 639), (0, u "([BIII)I"), (125, u "(I)I"), (244, u "([C)V"), (90, u "serialPersistentFields"), (0, u "[Ljava/io/ObjectStreamField;"), (0, .class_ 1104), (0, u "java/lang/String$CaseInsensitiveComparator"), (1, .class_ 1107), (0, u "java/io/Serializable"), (0, .class_ 1109), (0, u "java/lang/Comparable"), (0, .class_ 1111), (0, u "java/lang/constant/Constable"), (0, .class_ 1113), (0, u "java/lang/constant/ConstantDesc"), (2, u "serialVersionUID"), (0, u "J"), (3, u "REPL"), (0, u "C"), (2, u "LATIN1"), (1, u "UTF16")] 323

def k7m0 : Method := { name := "<init>", desc := "()V", sig := { parameters := [], returnType := none }, accessFlags := 1, code := none }
def k7c1 : Code := { maxStack := 5, maxLocals := 2, code := jdk_42_method_3_code, exceptionTable := #[], attributes := #[] }
def k7m1 : Method := { name := "<init>", desc := "([C)V", sig := { parameters := [(.array .char)], returnType := none }, accessFlags := 1, code := some k7c1 }
def k7c2 : Code := { maxStack := 2, maxLocals := 1, code := jdk_42_method_54_code, exceptionTable := #[], attributes := #[] }
def k7m2 : Method := { name := "length", desc := "()I", sig := { parameters := [], returnType := some .int }, accessFlags := 1, code := some k7c2 }
def k7c3 : Code := { maxStack := 3, maxLocals := 2, code := jdk_42_method_79_code, exceptionTable := #[], attributes := #[] }
def k7m3 : Method := { name := "indexOf", desc := "(I)I", sig := { parameters := [.int], returnType := some .int }, accessFlags := 1, code := some k7c3 }
def k7c4 : Code := { maxStack := 4, maxLocals := 3, code := jdk_42_method_80_code, exceptionTable := #[], attributes := #[] }
def k7m4 : Method := { name := "indexOf", desc := "(II)I", sig := { parameters := [.int, .int], returnType := some .int }, accessFlags := 1, code := some k7c4 }
def k7c5 : Code := { maxStack := 4, maxLocals := 6, code := jdk_42_method_149_code, exceptionTable := #[], attributes := #[] }
def k7m5 : Method := { name := "<init>", desc := "([CIILjava/lang/Void;)V", sig := { parameters := [(.array .char), .int, .int, (.object "java/lang/Void")], returnType := none }, accessFlags := 2, code := some k7c5 }
def k7c6 : Code := { maxStack := 1, maxLocals := 1, code := jdk_42_method_152_code, exceptionTable := #[], attributes := #[] }
def k7m6 : Method := { name := "coder", desc := "()B", sig := { parameters := [], returnType := some .byte }, accessFlags := 0, code := some k7c6 }
def k7c7 : Code := { maxStack := 1, maxLocals := 1, code := jdk_42_method_154_code, exceptionTable := #[], attributes := #[] }
def k7m7 : Method := { name := "isLatin1", desc := "()Z", sig := { parameters := [], returnType := some .boolean }, accessFlags := 0, code := some k7c7 }
/-- java/lang/String -/
def k7 : Class := { plain "java/lang/String" (some 0) with
  accessFlags := 49
  interfaces := #[2, 3, 4, 5, 6]
  cf := some (fileOf pool7 10 #[.nestMembers #[1103]] #[{ accessFlags := 1, nameIndex := 5, descriptorIndex := 6, attributes := #[] }, { accessFlags := 1, nameIndex := 5, descriptorIndex := 1010, attributes := #[] }, { accessFlags := 1, nameIndex := 507, descriptorIndex := 334, attributes := #[] }, { accessFlags := 1, nameIndex := 635, descriptorIndex := 765, attributes := #[] }, { accessFlags := 1, nameIndex := 635, descriptorIndex := 636, attributes := #[] }, { accessFlags := 2, nameIndex := 5, descriptorIndex := 29, attributes := #[] }, { accessFlags := 0, nameIndex := 17, descriptorIndex := 337, attributes := #[] }, { accessFlags := 0, nameIndex := 494, descriptorIndex := 142, attributes := #[] }] 49 2 #[1106, 1108, 575, 1110, 1112] #[{ accessFlags := 18, nameIndex := 13, descriptorIndex := 14, attributes := #[] }, { accessFlags := 18, nameIndex := 17, descriptorIndex := 18, attributes := #[] }, { accessFlags := 2, nameIndex := 21, descriptorIndex := 22, attributes := #[] }, { accessFlags := 2, nameIndex := 25, descriptorIndex := 26, attributes := #[] }, { accessFlags := 26, nameIndex := 1116, descriptorIndex := 1117, attributes := #[] }, { accessFlags := 24, nameIndex := 40, descriptorIndex := 26, attributes := #[] }, { accessFlags := 26, nameIndex := 1101, descriptorIndex := 1102, attributes := #[] }, { accessFlags := 26, nameIndex := 1121, descriptorIndex := 1122, attributes := #[] }, { accessFlags := 25, nameIndex := 599, descriptorIndex := 600, attributes := #[] }, { accessFlags := 24, nameIndex := 1125, descriptorIndex := 18, attributes := #[] }, { accessFlags := 24, nameIndex := 1127, descriptorIndex := 18, attributes := #[] }])
  fields := #[{ name := "value", type := (.array .byte), accessFlags := 18, slot := 0, constantValue := 0 }, { name := "coder", type := .byte, accessFlags := 18, slot := 1, constantValue := 0 }, { name := "hash", type := .int, accessFlags := 2, slot := 2, constantValue := 0 }, { name := "hashIsZero", type := .boolean, accessFlags := 2, slot := 3, constantValue := 0 }, { name := "serialVersionUID", type := .long, accessFlags := 26, slot := 0, constantValue := 0 }, { name := "COMPACT_STRINGS", type := .boolean, accessFlags := 24, slot := 1, constantValue := 0 }, { name := "serialPersistentFields", type := (.array (.object "java/io/ObjectStreamField")), accessFlags := 26, slot := 2, constantValue := 0 }, { name := "REPL", type := .char, accessFlags := 26, slot := 3, constantValue := 0 }, { name := "CASE_INSENSITIVE_ORDER", type := (.object "java/util/Comparator"), accessFlags := 25, slot := 4, constantValue := 0 }, { name := "LATIN1", type := .byte, accessFlags := 24, slot := 5, constantValue := 0 }, { name := "UTF16", type := .byte, accessFlags := 24, slot := 6, constantValue := 0 }]
  methods := #[k7m0, k7m1, k7m2, k7m3, k7m4, k7m5, k7m6, k7m7]
  instanceTypes := #[(.array .byte), .byte, .int, .boolean]
  staticTypes := #[.long, .boolean, (.array (.object "java/io/ObjectStreamField")), .char, (.object "java/util/Comparator"), .byte, .byte]
  resolved := Array.replicate 1451 none
  statics := some 0 }

def pool8 : Array CpInfo := pool [(2, .class_ 4), (1, u "java/lang/Object"), (0, u "<init>"), (0, u "()V"), (0, .class_ 8), (0, u "com/example/foldkey/foldkey/store/Token"), (0, .methodref 10 11), (0, .class_ 12), (0, .nameAndType 13 14), (0, u "java/lang/String"), (0, u "indexOf"), (0, u "(I)I"), (30, u "BAR"), (0, u "C"), (9, u "holdsSystem"), (0, u "(Ljava/lang/String;)Z")] 22

def k8m0 : Method := { name := "<init>", desc := "()V", sig := { parameters := [], returnType := none }, accessFlags := 2, code := none }
def k8c1 : Code := { maxStack := 2, maxLocals := 1, code := prog_39_method_3_code, exceptionTable := #[], attributes := #[] }
def k8m1 : Method := { name := "holdsSystem", desc := "(Ljava/lang/String;)Z", sig := { parameters := [(.object "java/lang/String")], returnType := some .boolean }, accessFlags := 8, code := some k8c1 }
/-- com/example/foldkey/foldkey/store/Token -/
def k8 : Class := { plain "com/example/foldkey/foldkey/store/Token" (some 0) with
  accessFlags := 48
  interfaces := #[]
  cf := some (fileOf pool8 7 #[] #[{ accessFlags := 2, nameIndex := 5, descriptorIndex := 6, attributes := #[] }, { accessFlags := 8, nameIndex := 56, descriptorIndex := 57, attributes := #[] }] 48 2 #[] #[{ accessFlags := 26, nameIndex := 45, descriptorIndex := 46, attributes := #[] }])
  fields := #[{ name := "BAR", type := .char, accessFlags := 26, slot := 0, constantValue := 0 }]
  methods := #[k8m0, k8m1]
  instanceTypes := #[]
  staticTypes := #[.char]
  resolved := Array.replicate 80 none
  statics := none }

def pool9 : Array CpInfo := pool [(4, .class_ 6), (1, u "java/lang/Object"), (0, u "<init>"), (0, u "()V"), (5, .class_ 16), (1, u "java/lang/StringLatin1"), (21, .methodref 39 40), (0, .class_ 41), (0, .nameAndType 42 43), (0, u "java/lang/Math"), (0, u "min"), (0, u "(II)I"), (44, .methodref 14 89), (0, .nameAndType 90 91), (0, u "canEncode"), (0, u "(I)Z"), (0, .methodref 39 93), (0, .nameAndType 94 43), (0, u "max"), (0, .methodref 14 96), (0, .nameAndType 97 98), (0, u "indexOfChar"), (0, u "([BIII)I"), (2, u "indexOf"), (19, u "$assertionsDisabled"), (0, u "Z"), (98, .class_ 223), (1, u "java/lang/StringLatin1$LinesSpliterator"), (166, .class_ 391), (0, u "java/lang/StringLatin1$CharsSpliterator")] 3

def k9m0 : Method := { name := "<init>", desc := "()V", sig := { parameters := [], returnType := none }, accessFlags := 0, code := none }
def k9c1 : Code := { maxStack := 2, maxLocals := 1, code := jdk_43_method_4_code, exceptionTable := #[], attributes := #[] }
def k9m1 : Method := { name := "canEncode", desc := "(I)Z", sig := { parameters := [.int], returnType := some .boolean }, accessFlags := 9, code := some k9c1 }
def k9c2 : Code := { maxStack := 4, maxLocals := 4, code := jdk_43_method_22_code, exceptionTable := #[], attributes := #[] }
def k9m2 : Method := { name := "indexOf", desc := "([BIII)I", sig := { parameters := [(.array .byte), .int, .int, .int], returnType := some .int }, accessFlags := 9, code := some k9c2 }
def k9c3 : Code := { maxStack := 2, maxLocals := 6, code := jdk_43_method_23_code, exceptionTable := #[], attributes := #[] }
def k9m3 : Method := { name := "indexOfChar", desc := "([BIII)I", sig := { parameters := [(.array .byte), .int, .int, .int], returnType := some .int }, accessFlags := 10, code := some k9c3 }
/-- java/lang/StringLatin1 -/
def k9 : Class := { plain "java/lang/StringLatin1" (some 0) with
  accessFlags := 48
  interfaces := #[]
  cf := some (fileOf pool9 14 #[.nestMembers #[390, 221]] #[{ accessFlags := 0, nameIndex := 7, descriptorIndex := 8, attributes := #[] }, { accessFlags := 9, nameIndex := 90, descriptorIndex := 91, attributes := #[] }, { accessFlags := 9, nameIndex := 101, descriptorIndex := 98, attributes := #[] }, { accessFlags := 10, nameIndex := 97, descriptorIndex := 98, attributes := #[] }] 48 4 #[] #[{ accessFlags := 4120, nameIndex := 121, descriptorIndex := 122, attributes := #[] }])
  fields := #[{ name := "$assertionsDisabled", type := .boolean, accessFlags := 4120, slot := 0, constantValue := 0 }]
  methods := #[k9m0, k9m1, k9m2, k9m3]
  instanceTypes := #[]
  staticTypes := #[.boolean]
  resolved := Array.replicate 395 none
  statics := none }

def pool10 : Array CpInfo := pool [(1, .class_ 2), (0, u "java/lang/Math"), (1, .class_ 6), (1, u "java/lang/Object"), (0, u "<init>"), (0, u "()V"), (89, .class_ 100), (1, u "java/lang/Math$RandomNumberGeneratorHolder"), (71, u "negativeZeroFloatBits"), (0, u "J"), (2, u "negativeZeroDoubleBits"), (21, u "max"), (2, u "min"), (43, u "$assertionsDisabled"), (0, u "Z"), (88, u "(II)I"), (2, u "twoToTheDoubleScaleDown"), (0, u "D"), (4, u "twoToTheDoubleScaleUp"), (9, u "E"), (3, u "PI"), (2, u "TAU"), (2, u "DEGREES_TO_RADIANS"), (0, u "RADIANS_TO_DEGREES")] 94

def k10m0 : Method := { name := "<init>", desc := "()V", sig := { parameters := [], returnType := none }, accessFlags := 2, code := none }
def k10c1 : Code := { maxStack := 2, maxLocals := 2, code := jdk_29_method_65_code, exceptionTable := #[], attributes := #[] }
def k10m1 : Method := { name := "max", desc := "(II)I", sig := { parameters := [.int, .int], returnType := some .int }, accessFlags := 9, code := some k10c1 }
def k10c2 : Code := { maxStack := 2, maxLocals := 2, code := jdk_29_method_69_code, exceptionTable := #[], attributes := #[] }
def k10m2 : Method := { name := "min", desc := "(II)I", sig := { parameters := [.int, .int], returnType := some .int }, accessFlags := 9, code := some k10c2 }
/-- java/lang/Math -/
def k10 : Class := { plain "java/lang/Math" (some 0) with
  accessFlags := 49
  interfaces := #[]
  cf := some (fileOf pool10 1 #[.nestMembers #[98]] #[{ accessFlags := 2, nameIndex := 7, descriptorIndex := 8, attributes := #[] }, { accessFlags := 9, nameIndex := 198, descriptorIndex := 335, attributes := #[] }, { accessFlags := 9, nameIndex := 201, descriptorIndex := 335, attributes := #[] }] 49 4 #[] #[{ accessFlags := 25, nameIndex := 354, descriptorIndex := 339, attributes := #[] }, { accessFlags := 25, nameIndex := 358, descriptorIndex := 339, attributes := #[] }, { accessFlags := 25, nameIndex := 361, descriptorIndex := 339, attributes := #[] }, { accessFlags := 26, nameIndex := 364, descriptorIndex := 339, attributes := #[] }, { accessFlags := 26, nameIndex := 365, descriptorIndex := 339, attributes := #[] }, { accessFlags := 26, nameIndex := 172, descriptorIndex := 173, attributes := #[] }, { accessFlags := 26, nameIndex := 176, descriptorIndex := 173, attributes := #[] }, { accessFlags := 8, nameIndex := 344, descriptorIndex := 339, attributes := #[] }, { accessFlags := 8, nameIndex := 338, descriptorIndex := 339, attributes := #[] }, { accessFlags := 4120, nameIndex := 245, descriptorIndex := 246, attributes := #[] }])
  fields := #[{ name := "E", type := .double, accessFlags := 25, slot := 0, constantValue := 0 }, { name := "PI", type := .double, accessFlags := 25, slot := 1, constantValue := 0 }, { name := "TAU", type := .double, accessFlags := 25, slot := 2, constantValue := 0 }, { name := "DEGREES_TO_RADIANS", type := .double, accessFlags := 26, slot := 3, constantValue := 0 }, { name := "RADIANS_TO_DEGREES", type := .double, accessFlags := 26, slot := 4, constantValue := 0 }, { name := "negativeZeroFloatBits", type := .long, accessFlags := 26, slot := 5, constantValue := 0 }, { name := "negativeZeroDoubleBits", type := .long, accessFlags := 26, slot := 6, constantValue := 0 }, { name := "twoToTheDoubleScaleUp", type := .double, accessFlags := 8, slot := 7, constantValue := 0 }, { name := "twoToTheDoubleScaleDown", type := .double, accessFlags := 8, slot := 8, constantValue := 0 }, { name := "$assertionsDisabled", type := .boolean, accessFlags := 4120, slot := 9, constantValue := 0 }]
  methods := #[k10m0, k10m1, k10m2]
  instanceTypes := #[]
  staticTypes := #[.double, .double, .double, .double, .double, .long, .long, .double, .double, .boolean]
  resolved := Array.replicate 460 none
  statics := none }

def pool11 : Array CpInfo := pool [(6, .class_ 8), (1, u "java/lang/Object"), (0, u "<init>"), (0, u "()V"), (1, .class_ 14), (1, u "java/lang/StringUTF16"), (31, u "$assertionsDisabled"), (0, u "Z"), (13, u "HI_BYTE_SHIFT"), (0, u "I"), (2, u "LO_BYTE_SHIFT"), (49, .methodref 12 116), (0, .nameAndType 117 118), (0, u "compress"), (0, u "([CI[BII)I"), (3, u "([CII)[B"), (138, u "coderFromArrayLen"), (0, u "([BI)B"), (106, .class_ 371), (1, u "java/lang/StringUTF16$LinesSpliterator"), (58, u "MAX_LENGTH"), (196, .class_ 628), (0, u "java/lang/StringUTF16$CodePointsSpliterator"), (0, .class_ 630), (0, u "java/lang/StringUTF16$CharsSpliterator")] 4

def k11m0 : Method := { name := "<init>", desc := "()V", sig := { parameters := [], returnType := none }, accessFlags := 0, code := none }
def k11c1 : Code := { maxStack := 2, maxLocals := 2, code := jdk_52_method_15_code, exceptionTable := #[], attributes := #[] }
def k11m1 : Method := { name := "coderFromArrayLen", desc := "([BI)B", sig := { parameters := [(.array .byte), .int], returnType := some .byte }, accessFlags := 8, code := some k11c1 }
def k11c2 : Code := { maxStack := 5, maxLocals := 6, code := jdk_52_method_16_code, exceptionTable := #[], attributes := #[] }
def k11m2 : Method := { name := "compress", desc := "([CII)[B", sig := { parameters := [(.array .char), .int, .int], returnType := some (.array .byte) }, accessFlags := 9, code := some k11c2 }
def k11c3 : Code := { maxStack := 3, maxLocals := 7, code := jdk_52_method_21_code, exceptionTable := #[], attributes := #[] }
def k11m3 : Method := { name := "compress", desc := "([CI[BII)I", sig := { parameters := [(.array .char), .int, (.array .byte), .int, .int], returnType := some .int }, accessFlags := 9, code := some k11c3 }
/-- java/lang/StringUTF16 -/
def k11 : Class := { plain "java/lang/StringUTF16" (some 0) with
  accessFlags := 48
  interfaces := #[]
  cf := some (fileOf pool11 12 #[.nestMembers #[627, 629, 369]] #[{ accessFlags := 0, nameIndex := 9, descriptorIndex := 10, attributes := #[] }, { accessFlags := 8, nameIndex := 261, descriptorIndex := 262, attributes := #[] }, { accessFlags := 9, nameIndex := 117, descriptorIndex := 122, attributes := #[] }, { accessFlags := 9, nameIndex := 117, descriptorIndex := 118, attributes := #[] }] 48 6 #[] #[{ accessFlags := 26, nameIndex := 61, descriptorIndex := 62, attributes := #[] }, { accessFlags := 26, nameIndex := 65, descriptorIndex := 62, attributes := #[] }, { accessFlags := 24, nameIndex := 430, descriptorIndex := 62, attributes := #[] }, { accessFlags := 4120, nameIndex := 46, descriptorIndex := 47, attributes := #[] }])
  fields := #[{ name := "HI_BYTE_SHIFT", type := .int, accessFlags := 26, slot := 0, constantValue := 0 }, { name := "LO_BYTE_SHIFT", type := .int, accessFlags := 26, slot := 1, constantValue := 0 }, { name := "MAX_LENGTH", type := .int, accessFlags := 24, slot := 2, constantValue := 0 }, { name := "$assertionsDisabled", type := .boolean, accessFlags := 4120, slot := 3, constantValue := 0 }]
  methods := #[k11m0, k11m1, k11m2, k11m3]
  instanceTypes := #[]
  staticTypes := #[.int, .int, .int, .boolean]
  resolved := Array.replicate 635 none
  statics := none }

def pool12 : Array CpInfo := pool [(2, .class_ 4), (1, u "java/lang/Object"), (0, u "<init>"), (0, u "()V"), (17, .class_ 26), (1, u "jdk/internal/util/Preconditions"), (28, .class_ 56), (0, u "jdk/internal/util/Preconditions$4"), (57, .class_ 115), (0, u "jdk/internal/util/Preconditions$1"), (7, u "SIOOBE_FORMATTER"), (0, u "Ljava/util/function/BiFunction;"), (0, .class_ 126), (0, u "jdk/internal/util/Preconditions$2"), (3, u "AIOOBE_FORMATTER"), (0, .class_ 132), (0, u "jdk/internal/util/Preconditions$3"), (3, u "IOOBE_FORMATTER")] 57

def k12m0 : Method := { name := "<init>", desc := "()V", sig := { parameters := [], returnType := none }, accessFlags := 1, code := none }
/-- jdk/internal/util/Preconditions -/
def k12 : Class := { plain "jdk/internal/util/Preconditions" (some 0) with
  accessFlags := 33
  interfaces := #[]
  cf := some (fileOf pool12 24 #[.nestMembers #[55, 131, 125, 114]] #[{ accessFlags := 1, nameIndex := 5, descriptorIndex := 6, attributes := #[] }] 33 2 #[] #[{ accessFlags := 25, nameIndex := 123, descriptorIndex := 124, attributes := #[] }, { accessFlags := 25, nameIndex := 130, descriptorIndex := 124, attributes := #[] }, { accessFlags := 25, nameIndex := 136, descriptorIndex := 124, attributes := #[] }])
  fields := #[{ name := "SIOOBE_FORMATTER", type := (.object "java/util/function/BiFunction"), accessFlags := 25, slot := 0, constantValue := 0 }, { name := "AIOOBE_FORMATTER", type := (.object "java/util/function/BiFunction"), accessFlags := 25, slot := 1, constantValue := 0 }, { name := "IOOBE_FORMATTER", type := (.object "java/util/function/BiFunction"), accessFlags := 25, slot := 2, constantValue := 0 }]
  methods := #[k12m0]
  instanceTypes := #[]
  staticTypes := #[(.object "java/util/function/BiFunction"), (.object "java/util/function/BiFunction"), (.object "java/util/function/BiFunction")]
  resolved := Array.replicate 194 none
  statics := some 1 }

def pool13 : Array CpInfo := pool [(9, u "<init>"), (6, .class_ 18), (1, u "java/lang/Object"), (0, u "()V"), (1, .class_ 23), (1, u "jdk/internal/util/ArraysSupport"), (0, u "LOG2_ARRAY_LONG_INDEX_SCALE"), (0, u "I"), (2, u "U"), (0, u "Ljdk/internal/misc/Unsafe;"), (8, u "BIG_ENDIAN"), (0, u "Z"), (8, u "LOG2_BYTE_BIT_SIZE"), (4, u "LOG2_ARRAY_INT_INDEX_SCALE"), (54, u "JLA"), (0, u "Ljdk/internal/access/JavaLangAccess;"), (11, u "LOG2_ARRAY_BOOLEAN_INDEX_SCALE"), (9, u "LOG2_ARRAY_BYTE_INDEX_SCALE"), (5, u "LOG2_ARRAY_CHAR_INDEX_SCALE"), (5, u "LOG2_ARRAY_SHORT_INDEX_SCALE"), (18, u "LOG2_ARRAY_FLOAT_INDEX_SCALE"), (24, u "LOG2_ARRAY_DOUBLE_INDEX_SCALE"), (89, u "T_BOOLEAN"), (2, u "T_CHAR"), (1, u "T_FLOAT"), (1, u "T_DOUBLE"), (1, u "T_BYTE"), (1, u "T_SHORT"), (1, u "T_INT"), (1, u "T_LONG"), (1, u "SOFT_MAX_ARRAY_LENGTH")] 83

def k13m0 : Method := { name := "<init>", desc := "()V", sig := { parameters := [], returnType := none }, accessFlags := 2, code := none }
/-- jdk/internal/util/ArraysSupport -/
def k13 : Class := { plain "jdk/internal/util/ArraysSupport" (some 0) with
  accessFlags := 33
  interfaces := #[]
  cf := some (fileOf pool13 21 #[] #[{ accessFlags := 2, nameIndex := 9, descriptorIndex := 19, attributes := #[] }] 33 16 #[] #[{ accessFlags := 24, nameIndex := 28, descriptorIndex := 29, attributes := #[] }, { accessFlags := 26, nameIndex := 38, descriptorIndex := 39, attributes := #[] }, { accessFlags := 25, nameIndex := 121, descriptorIndex := 25, attributes := #[] }, { accessFlags := 25, nameIndex := 131, descriptorIndex := 25, attributes := #[] }, { accessFlags := 25, nameIndex := 137, descriptorIndex := 25, attributes := #[] }, { accessFlags := 25, nameIndex := 143, descriptorIndex := 25, attributes := #[] }, { accessFlags := 25, nameIndex := 53, descriptorIndex := 25, attributes := #[] }, { accessFlags := 25, nameIndex := 24, descriptorIndex := 25, attributes := #[] }, { accessFlags := 25, nameIndex := 162, descriptorIndex := 25, attributes := #[] }, { accessFlags := 25, nameIndex := 187, descriptorIndex := 25, attributes := #[] }, { accessFlags := 26, nameIndex := 48, descriptorIndex := 25, attributes := #[] }, { accessFlags := 25, nameIndex := 277, descriptorIndex := 25, attributes := #[] }, { accessFlags := 25, nameIndex := 280, descriptorIndex := 25, attributes := #[] }, { accessFlags := 25, nameIndex := 282, descriptorIndex := 25, attributes := #[] }, { accessFlags := 25, nameIndex := 284, descriptorIndex := 25, attributes := #[] }, { accessFlags := 25, nameIndex := 286, descriptorIndex := 25, attributes := #[] }, { accessFlags := 25, nameIndex := 288, descriptorIndex := 25, attributes := #[] }, { accessFlags := 25, nameIndex := 290, descriptorIndex := 25, attributes := #[] }, { accessFlags := 25, nameIndex := 292, descriptorIndex := 25, attributes := #[] }, { accessFlags := 26, nameIndex := 108, descriptorIndex := 109, attributes := #[] }, { accessFlags := 25, nameIndex := 294, descriptorIndex := 25, attributes := #[] }])
  fields := #[{ name := "U", type := (.object "jdk/internal/misc/Unsafe"), accessFlags := 24, slot := 0, constantValue := 0 }, { name := "BIG_ENDIAN", type := .boolean, accessFlags := 26, slot := 1, constantValue := 0 }, { name := "LOG2_ARRAY_BOOLEAN_INDEX_SCALE", type := .int, accessFlags := 25, slot := 2, constantValue := 0 }, { name := "LOG2_ARRAY_BYTE_INDEX_SCALE", type := .int, accessFlags := 25, slot := 3, constantValue := 0 }, { name := "LOG2_ARRAY_CHAR_INDEX_SCALE", type := .int, accessFlags := 25, slot := 4, constantValue := 0 }, { name := "LOG2_ARRAY_SHORT_INDEX_SCALE", type := .int, accessFlags := 25, slot := 5, constantValue := 0 }, { name := "LOG2_ARRAY_INT_INDEX_SCALE", type := .int, accessFlags := 25, slot := 6, constantValue := 0 }, { name := "LOG2_ARRAY_LONG_INDEX_SCALE", type := .int, accessFlags := 25, slot := 7, constantValue := 0 }, { name := "LOG2_ARRAY_FLOAT_INDEX_SCALE", type := .int, accessFlags := 25, slot := 8, constantValue := 0 }, { name := "LOG2_ARRAY_DOUBLE_INDEX_SCALE", type := .int, accessFlags := 25, slot := 9, constantValue := 0 }, { name := "LOG2_BYTE_BIT_SIZE", type := .int, accessFlags := 26, slot := 10, constantValue := 0 }, { name := "T_BOOLEAN", type := .int, accessFlags := 25, slot := 11, constantValue := 0 }, { name := "T_CHAR", type := .int, accessFlags := 25, slot := 12, constantValue := 0 }, { name := "T_FLOAT", type := .int, accessFlags := 25, slot := 13, constantValue := 0 }, { name := "T_DOUBLE", type := .int, accessFlags := 25, slot := 14, constantValue := 0 }, { name := "T_BYTE", type := .int, accessFlags := 25, slot := 15, constantValue := 0 }, { name := "T_SHORT", type := .int, accessFlags := 25, slot := 16, constantValue := 0 }, { name := "T_INT", type := .int, accessFlags := 25, slot := 17, constantValue := 0 }, { name := "T_LONG", type := .int, accessFlags := 25, slot := 18, constantValue := 0 }, { name := "JLA", type := (.object "jdk/internal/access/JavaLangAccess"), accessFlags := 26, slot := 19, constantValue := 0 }, { name := "SOFT_MAX_ARRAY_LENGTH", type := .int, accessFlags := 25, slot := 20, constantValue := 0 }]
  methods := #[k13m0]
  instanceTypes := #[]
  staticTypes := #[(.object "jdk/internal/misc/Unsafe"), .boolean, .int, .int, .int, .int, .int, .int, .int, .int, .int, .int, .int, .int, .int, .int, .int, .int, .int, (.object "jdk/internal/access/JavaLangAccess"), .int]
  resolved := Array.replicate 378 none
  statics := none }

def pool14 : Array CpInfo := pool [(1, u "java/lang/Cloneable"), (0, .class_ 1), (0, u "java/lang/Object"), (0, .class_ 3)] 3

/-- java/lang/Cloneable -/
def k14 : Class := { plain "java/lang/Cloneable" (some 0) with
  accessFlags := 1537
  interfaces := #[]
  cf := some (fileOf pool14 2 #[] #[] 1537 4 #[] #[])
  fields := #[]
  methods := #[]
  instanceTypes := #[]
  staticTypes := #[]
  resolved := Array.replicate 8 none
  statics := none }

/-- the primitive byte -/
def k15 : Class := { plain "byte" none with kind := .primitive 'B', accessFlags := 0x411 }
/-- [B -/
def k16 : Class := { plain "[B" (some 0) with kind := .array 15 .byte, interfaces := #[14, 2], accessFlags := 1041 }

/-- the primitive char -/
def k17 : Class := { plain "char" none with kind := .primitive 'C', accessFlags := 0x411 }
/-- [C -/
def k18 : Class := { plain "[C" (some 0) with kind := .array 17 .char, interfaces := #[14, 2], accessFlags := 1041 }

/-- the primitive int -/
def k19 : Class := { plain "int" none with kind := .primitive 'I', accessFlags := 0x411 }
/-- [I -/
def k20 : Class := { plain "[I" (some 0) with kind := .array 19 .int, interfaces := #[14, 2], accessFlags := 1041 }

def heap : Heap := #[{ cls := 7, slots := #[.long 0, .int 1, .null, .int 0, .null, .int 0, .int 0], vm := .statics 7 },
  { cls := 12, slots := #[.null, .null, .null], vm := .statics 12 }]
def classes : Array Class := #[k0, k1, k2, k3, k4, k5, k6, k7, k8, k9, k10, k11, k12, k13, k14, k15, k16, k17, k18, k19, k20]
def interned : List (Array UInt16 × Addr) := []
def slotsUsed : Nat := 10
def theMethod : MethodId := ⟨1, 1⟩
def args0 : Array Value := #[.int 5, .int 6, .int 7, .int 8]
def aboutOver (below : List Frame) : State where
  vm := { classes := classes, interned := interned.toArray }
  heap := heap
  slotsUsed := slotsUsed
  threads := #[{ frames := .invoking theMethod args0 :: below }]
def below0 : List Frame := [.native { method := ⟨0, 0⟩, args := #[] }]
def about1 : State := aboutOver below0
def p0 : Program := .bare "" "" ""
def e0 : Env := launch0.env 0 0 0
theorem w_frames : about1.frames = Frame.invoking theMethod args0 :: below0 := rfl
set_option maxRecDepth 65536 in
theorem w_args : argsFit about1.vm theMethod args0 = true := by decide +kernel
set_option maxRecDepth 65536 in
theorem w_heap : heapFits about1 = true := by decide +kernel
set_option maxRecDepth 65536 in
theorem w_runnable : about1.curStatus? = some .runnable := by decide +kernel
set_option maxRecDepth 65536 in
theorem w_alone : about1.alone = true := by decide +kernel
set_option maxRecDepth 65536 in
theorem w_named : about1.methodNamed? x = some theMethod := by decide +kernel
set_option maxRecDepth 65536 in
theorem w_hears : about1.hears theMethod below0 = true := by decide +kernel
set_option maxRecDepth 65536 in
theorem w_ripe : about1.ripe theMethod args0 below0 = true := by decide +kernel
theorem w_running : about1.status = .running := rfl
set_option maxRecDepth 65536 in
theorem w_room : about1.hasRoom e0.platform room_1 = true :=
  launch0.hasRoom_least _ room_1 (by decide +kernel) (by decide +kernel) (by decide +kernel) (by decide +kernel) (by decide +kernel) (by decide +kernel)
theorem allAtoms_all (ts : List Jvm.Cond) (a : Array Jvm.Value) (st : Jvm.State) : (allAtoms ts).before a st = ts.all (fun c => c.before a st) := by
  induction ts with
  | nil => rfl
  | cons c t ih =>
    show (Jvm.Cond.and c (allAtoms t)).before a st = _
    rw [Jvm.Cond.before_and, ih, List.all_cons]
def words1 : List Jvm.Cond := Jvm.Cond.code x code maxLocals ret :: tables_1
/-- a 'code' word, met by the world's own term for the bytes: nothing is compared byte by byte -/
theorem code_word {y : MethodName} {bytes : ByteArray} {mx : Nat} {rt : Option FieldType} {a : Array Value} {s : State} {m : MethodId} {meth : Method} {c : Code} (h1 : s.methodNamed? y = some m) (h2 : s.vm.method? m = some meth) (h3 : meth.code = some c) (h4 : c.code = bytes)
    (h5 : (c.maxLocals == mx && c.exceptionTable.isEmpty && decide (c.maxStack ≤ mostOperands) && decide (meth.sig.returnType = rt) && !meth.locks && decide (parseMethodDescriptor y.desc = some meth.sig)) = true) : (Jvm.Cond.code y bytes mx rt).before a s = true := by
  simp only [Bool.and_eq_true, beq_iff_eq, Bool.not_eq_true', decide_eq_true_eq] at h5
  obtain ⟨⟨⟨⟨⟨g1, g2⟩, g3⟩, g4⟩, g5⟩, g6⟩ := h5
  simp [Cond.before, Cond.holds, Cond.value, h1, h2, h3, h4, g1, g2, g3, g4, g5, g6]
def isCode : Jvm.Cond → Bool
  | .code _ _ _ _ => true
  | _ => false
theorem all_split {L : List Jvm.Cond} {P : Jvm.Cond → Bool} (h1 : L.all (fun c => isCode c || P c) = true) (h2 : ∀ c ∈ L.filter isCode, P c = true) : L.all P = true := by
  refine List.all_eq_true.mpr fun c hc => ?_
  have h := List.all_eq_true.mp h1 c hc
  rcases Bool.eq_false_or_eq_true (isCode c) with hi | hi
  · exact h2 c (List.mem_filter.mpr ⟨hc, hi⟩)
  · simpa [hi] using h
set_option maxRecDepth 65536 in
theorem w_c0 : (Jvm.Cond.code x code maxLocals ret).before args0 about1 = true := code_word (m := ⟨1, 1⟩) (meth := k1m1) (c := k1c1) (by decide +kernel) rfl rfl rfl (by decide +kernel)
set_option maxRecDepth 65536 in
theorem w_c1 : (Jvm.Cond.code ({ cls := "com/example/foldkey/foldkey/store/TokenHoldsSystemPinLaw", name := "pick", desc := "(II)C" } : Jvm.MethodName) method_3_code (2 : Nat) (Option.some Jvm.ClassFile.FieldType.char)).before args0 about1 = true := code_word (m := ⟨1, 2⟩) (meth := k1m2) (c := k1c2) (by decide +kernel) rfl rfl rfl (by decide +kernel)
set_option maxRecDepth 65536 in
theorem w_c2 : (Jvm.Cond.code ({ cls := "com/example/foldkey/foldkey/store/TokenHoldsSystemPinLaw", name := "make", desc := "(ICCCC)Ljava/lang/String;" } : Jvm.MethodName) method_4_code (5 : Nat) (Option.some (Jvm.ClassFile.FieldType.object "java/lang/String"))).before args0 about1 = true := code_word (m := ⟨1, 3⟩) (meth := k1m3) (c := k1c3) (by decide +kernel) rfl rfl rfl (by decide +kernel)
set_option maxRecDepth 65536 in
theorem w_c3 : (Jvm.Cond.code ({ cls := "java/lang/String", name := "<init>", desc := "([C)V" } : Jvm.MethodName) jdk_42_method_3_code (2 : Nat) (Option.none : Option Jvm.ClassFile.FieldType)).before args0 about1 = true := code_word (m := ⟨7, 1⟩) (meth := k7m1) (c := k7c1) (by decide +kernel) rfl rfl rfl (by decide +kernel)
set_option maxRecDepth 65536 in
theorem w_c4 : (Jvm.Cond.code ({ cls := "java/lang/String", name := "<init>", desc := "([CIILjava/lang/Void;)V" } : Jvm.MethodName) jdk_42_method_149_code (6 : Nat) (Option.none : Option Jvm.ClassFile.FieldType)).before args0 about1 = true := code_word (m := ⟨7, 5⟩) (meth := k7m5) (c := k7c5) (by decide +kernel) rfl rfl rfl (by decide +kernel)
set_option maxRecDepth 65536 in
theorem w_c5 : (Jvm.Cond.code ({ cls := "java/lang/Object", name := "<init>", desc := "()V" } : Jvm.MethodName) object_method_1_code (1 : Nat) (Option.none : Option Jvm.ClassFile.FieldType)).before args0 about1 = true := code_word (m := ⟨0, 0⟩) (meth := k0m0) (c := k0c0) (by decide +kernel) rfl rfl rfl (by decide +kernel)
set_option maxRecDepth 65536 in
theorem w_c6 : (Jvm.Cond.code ({ cls := "com/example/foldkey/foldkey/store/Token", name := "holdsSystem", desc := "(Ljava/lang/String;)Z" } : Jvm.MethodName) prog_39_method_3_code (1 : Nat) (Option.some Jvm.ClassFile.FieldType.boolean)).before args0 about1 = true := code_word (m := ⟨8, 1⟩) (meth := k8m1) (c := k8c1) (by decide +kernel) rfl rfl rfl (by decide +kernel)
set_option maxRecDepth 65536 in
theorem w_c7 : (Jvm.Cond.code ({ cls := "java/lang/String", name := "indexOf", desc := "(I)I" } : Jvm.MethodName) jdk_42_method_79_code (2 : Nat) (Option.some Jvm.ClassFile.FieldType.int)).before args0 about1 = true := code_word (m := ⟨7, 3⟩) (meth := k7m3) (c := k7c3) (by decide +kernel) rfl rfl rfl (by decide +kernel)
set_option maxRecDepth 65536 in
theorem w_c8 : (Jvm.Cond.code ({ cls := "java/lang/String", name := "indexOf", desc := "(II)I" } : Jvm.MethodName) jdk_42_method_80_code (3 : Nat) (Option.some Jvm.ClassFile.FieldType.int)).before args0 about1 = true := code_word (m := ⟨7, 4⟩) (meth := k7m4) (c := k7c4) (by decide +kernel) rfl rfl rfl (by decide +kernel)
set_option maxRecDepth 65536 in
theorem w_c9 : (Jvm.Cond.code ({ cls := "java/lang/String", name := "isLatin1", desc := "()Z" } : Jvm.MethodName) jdk_42_method_154_code (1 : Nat) (Option.some Jvm.ClassFile.FieldType.boolean)).before args0 about1 = true := code_word (m := ⟨7, 7⟩) (meth := k7m7) (c := k7c7) (by decide +kernel) rfl rfl rfl (by decide +kernel)
set_option maxRecDepth 65536 in
theorem w_c10 : (Jvm.Cond.code ({ cls := "java/lang/String", name := "length", desc := "()I" } : Jvm.MethodName) jdk_42_method_54_code (1 : Nat) (Option.some Jvm.ClassFile.FieldType.int)).before args0 about1 = true := code_word (m := ⟨7, 2⟩) (meth := k7m2) (c := k7c2) (by decide +kernel) rfl rfl rfl (by decide +kernel)
set_option maxRecDepth 65536 in
theorem w_c11 : (Jvm.Cond.code ({ cls := "java/lang/String", name := "coder", desc := "()B" } : Jvm.MethodName) jdk_42_method_152_code (1 : Nat) (Option.some Jvm.ClassFile.FieldType.byte)).before args0 about1 = true := code_word (m := ⟨7, 6⟩) (meth := k7m6) (c := k7c6) (by decide +kernel) rfl rfl rfl (by decide +kernel)
set_option maxRecDepth 65536 in
theorem w_c12 : (Jvm.Cond.code ({ cls := "java/lang/StringLatin1", name := "indexOf", desc := "([BIII)I" } : Jvm.MethodName) jdk_43_method_22_code (4 : Nat) (Option.some Jvm.ClassFile.FieldType.int)).before args0 about1 = true := code_word (m := ⟨9, 2⟩) (meth := k9m2) (c := k9c2) (by decide +kernel) rfl rfl rfl (by decide +kernel)
set_option maxRecDepth 65536 in
theorem w_c13 : (Jvm.Cond.code ({ cls := "java/lang/StringLatin1", name := "canEncode", desc := "(I)Z" } : Jvm.MethodName) jdk_43_method_4_code (1 : Nat) (Option.some Jvm.ClassFile.FieldType.boolean)).before args0 about1 = true := code_word (m := ⟨9, 1⟩) (meth := k9m1) (c := k9c1) (by decide +kernel) rfl rfl rfl (by decide +kernel)
set_option maxRecDepth 65536 in
theorem w_c14 : (Jvm.Cond.code ({ cls := "java/lang/Math", name := "max", desc := "(II)I" } : Jvm.MethodName) jdk_29_method_65_code (2 : Nat) (Option.some Jvm.ClassFile.FieldType.int)).before args0 about1 = true := code_word (m := ⟨10, 1⟩) (meth := k10m1) (c := k10c1) (by decide +kernel) rfl rfl rfl (by decide +kernel)
set_option maxRecDepth 65536 in
theorem w_c15 : (Jvm.Cond.code ({ cls := "java/lang/Math", name := "min", desc := "(II)I" } : Jvm.MethodName) jdk_29_method_69_code (2 : Nat) (Option.some Jvm.ClassFile.FieldType.int)).before args0 about1 = true := code_word (m := ⟨10, 2⟩) (meth := k10m2) (c := k10c2) (by decide +kernel) rfl rfl rfl (by decide +kernel)
set_option maxRecDepth 65536 in
theorem w_c16 : (Jvm.Cond.code ({ cls := "java/lang/StringUTF16", name := "compress", desc := "([CII)[B" } : Jvm.MethodName) jdk_52_method_16_code (6 : Nat) (Option.some (Jvm.ClassFile.FieldType.array Jvm.ClassFile.FieldType.byte))).before args0 about1 = true := code_word (m := ⟨11, 2⟩) (meth := k11m2) (c := k11c2) (by decide +kernel) rfl rfl rfl (by decide +kernel)
set_option maxRecDepth 65536 in
theorem w_c17 : (Jvm.Cond.code ({ cls := "java/lang/StringUTF16", name := "compress", desc := "([CI[BII)I" } : Jvm.MethodName) jdk_52_method_21_code (7 : Nat) (Option.some Jvm.ClassFile.FieldType.int)).before args0 about1 = true := code_word (m := ⟨11, 3⟩) (meth := k11m3) (c := k11c3) (by decide +kernel) rfl rfl rfl (by decide +kernel)
set_option maxRecDepth 65536 in
theorem w_c18 : (Jvm.Cond.code ({ cls := "java/lang/StringUTF16", name := "coderFromArrayLen", desc := "([BI)B" } : Jvm.MethodName) jdk_52_method_15_code (2 : Nat) (Option.some Jvm.ClassFile.FieldType.byte)).before args0 about1 = true := code_word (m := ⟨11, 1⟩) (meth := k11m1) (c := k11c1) (by decide +kernel) rfl rfl rfl (by decide +kernel)
set_option maxRecDepth 65536 in
theorem w_c19 : (Jvm.Cond.code ({ cls := "java/lang/StringLatin1", name := "indexOfChar", desc := "([BIII)I" } : Jvm.MethodName) jdk_43_method_23_code (6 : Nat) (Option.some Jvm.ClassFile.FieldType.int)).before args0 about1 = true := code_word (m := ⟨9, 3⟩) (meth := k9m3) (c := k9c3) (by decide +kernel) rfl rfl rfl (by decide +kernel)
def codes1 : List Jvm.Cond := [Jvm.Cond.code x code maxLocals ret, Jvm.Cond.code ({ cls := "com/example/foldkey/foldkey/store/TokenHoldsSystemPinLaw", name := "pick", desc := "(II)C" } : Jvm.MethodName) method_3_code (2 : Nat) (Option.some Jvm.ClassFile.FieldType.char), Jvm.Cond.code ({ cls := "com/example/foldkey/foldkey/store/TokenHoldsSystemPinLaw", name := "make", desc := "(ICCCC)Ljava/lang/String;" } : Jvm.MethodName) method_4_code (5 : Nat) (Option.some (Jvm.ClassFile.FieldType.object "java/lang/String")), Jvm.Cond.code ({ cls := "java/lang/String", name := "<init>", desc := "([C)V" } : Jvm.MethodName) jdk_42_method_3_code (2 : Nat) (Option.none : Option Jvm.ClassFile.FieldType), Jvm.Cond.code ({ cls := "java/lang/String", name := "<init>", desc := "([CIILjava/lang/Void;)V" } : Jvm.MethodName) jdk_42_method_149_code (6 : Nat) (Option.none : Option Jvm.ClassFile.FieldType), Jvm.Cond.code ({ cls := "java/lang/Object", name := "<init>", desc := "()V" } : Jvm.MethodName) object_method_1_code (1 : Nat) (Option.none : Option Jvm.ClassFile.FieldType), Jvm.Cond.code ({ cls := "com/example/foldkey/foldkey/store/Token", name := "holdsSystem", desc := "(Ljava/lang/String;)Z" } : Jvm.MethodName) prog_39_method_3_code (1 : Nat) (Option.some Jvm.ClassFile.FieldType.boolean), Jvm.Cond.code ({ cls := "java/lang/String", name := "indexOf", desc := "(I)I" } : Jvm.MethodName) jdk_42_method_79_code (2 : Nat) (Option.some Jvm.ClassFile.FieldType.int), Jvm.Cond.code ({ cls := "java/lang/String", name := "indexOf", desc := "(II)I" } : Jvm.MethodName) jdk_42_method_80_code (3 : Nat) (Option.some Jvm.ClassFile.FieldType.int), Jvm.Cond.code ({ cls := "java/lang/String", name := "isLatin1", desc := "()Z" } : Jvm.MethodName) jdk_42_method_154_code (1 : Nat) (Option.some Jvm.ClassFile.FieldType.boolean), Jvm.Cond.code ({ cls := "java/lang/String", name := "length", desc := "()I" } : Jvm.MethodName) jdk_42_method_54_code (1 : Nat) (Option.some Jvm.ClassFile.FieldType.int), Jvm.Cond.code ({ cls := "java/lang/String", name := "coder", desc := "()B" } : Jvm.MethodName) jdk_42_method_152_code (1 : Nat) (Option.some Jvm.ClassFile.FieldType.byte), Jvm.Cond.code ({ cls := "java/lang/StringLatin1", name := "indexOf", desc := "([BIII)I" } : Jvm.MethodName) jdk_43_method_22_code (4 : Nat) (Option.some Jvm.ClassFile.FieldType.int), Jvm.Cond.code ({ cls := "java/lang/StringLatin1", name := "canEncode", desc := "(I)Z" } : Jvm.MethodName) jdk_43_method_4_code (1 : Nat) (Option.some Jvm.ClassFile.FieldType.boolean), Jvm.Cond.code ({ cls := "java/lang/Math", name := "max", desc := "(II)I" } : Jvm.MethodName) jdk_29_method_65_code (2 : Nat) (Option.some Jvm.ClassFile.FieldType.int), Jvm.Cond.code ({ cls := "java/lang/Math", name := "min", desc := "(II)I" } : Jvm.MethodName) jdk_29_method_69_code (2 : Nat) (Option.some Jvm.ClassFile.FieldType.int), Jvm.Cond.code ({ cls := "java/lang/StringUTF16", name := "compress", desc := "([CII)[B" } : Jvm.MethodName) jdk_52_method_16_code (6 : Nat) (Option.some (Jvm.ClassFile.FieldType.array Jvm.ClassFile.FieldType.byte)), Jvm.Cond.code ({ cls := "java/lang/StringUTF16", name := "compress", desc := "([CI[BII)I" } : Jvm.MethodName) jdk_52_method_21_code (7 : Nat) (Option.some Jvm.ClassFile.FieldType.int), Jvm.Cond.code ({ cls := "java/lang/StringUTF16", name := "coderFromArrayLen", desc := "([BI)B" } : Jvm.MethodName) jdk_52_method_15_code (2 : Nat) (Option.some Jvm.ClassFile.FieldType.byte), Jvm.Cond.code ({ cls := "java/lang/StringLatin1", name := "indexOfChar", desc := "([BIII)I" } : Jvm.MethodName) jdk_43_method_23_code (6 : Nat) (Option.some Jvm.ClassFile.FieldType.int)]
set_option maxRecDepth 65536 in
theorem codes_eq : words1.filter isCode = codes1 := rfl
theorem w_codes : ∀ c ∈ words1.filter isCode, c.before args0 about1 = true := by
  rw [codes_eq]
  intro c hc
  simp only [codes1, List.mem_cons, List.not_mem_nil, or_false] at hc
  rcases hc with rfl | rfl | rfl | rfl | rfl | rfl | rfl | rfl | rfl | rfl | rfl | rfl | rfl | rfl | rfl | rfl | rfl | rfl | rfl | rfl
  · exact w_c0
  · exact w_c1
  · exact w_c2
  · exact w_c3
  · exact w_c4
  · exact w_c5
  · exact w_c6
  · exact w_c7
  · exact w_c8
  · exact w_c9
  · exact w_c10
  · exact w_c11
  · exact w_c12
  · exact w_c13
  · exact w_c14
  · exact w_c15
  · exact w_c16
  · exact w_c17
  · exact w_c18
  · exact w_c19
set_option maxRecDepth 65536 in
theorem w_t1 : (words1.take 24).all (fun c => isCode c || c.before args0 about1) = true := by decide +kernel
set_option maxRecDepth 65536 in
theorem w_t2 : ((words1.drop 24).take 24).all (fun c => isCode c || c.before args0 about1) = true := by decide +kernel
set_option maxRecDepth 65536 in
theorem w_t3 : (((words1.drop 24).drop 24).take 24).all (fun c => isCode c || c.before args0 about1) = true := by decide +kernel
set_option maxRecDepth 65536 in
theorem w_t4 : (((words1.drop 24).drop 24).drop 24).all (fun c => isCode c || c.before args0 about1) = true := by decide +kernel
theorem w_tables : (allAtoms (Jvm.Cond.code x code maxLocals ret :: tables_1)).before args0 about1 = true := by
  rw [allAtoms_all]
  show words1.all (fun c => c.before args0 about1) = true
  refine all_split ?_ w_codes
  rw [← List.take_append_drop 24 words1, List.all_append, w_t1, ← List.take_append_drop 24 (words1.drop 24), List.all_append, w_t2, ← List.take_append_drop 24 ((words1.drop 24).drop 24), List.all_append, w_t3, w_t4]
  rfl
set_option maxRecDepth 65536 in
theorem w_rest : rest_1_c.before args0 about1 = true := by decide +kernel
set_option maxRecDepth 65536 in
theorem w_case : (Jvm.Cond.and given_1 narrow_1).before args0 about1 = true := by decide +kernel
set_option maxRecDepth 65536 in
theorem w_consts : constsHeld consts_1 about1 := Jvm.Lit.constsHeldB_iff.mp (by decide +kernel)
theorem w_applies : (headSpec (Jvm.Cond.code x code maxLocals ret :: tables_1) room_1).applies x e0.platform about1 = true :=
  (Spec.applies_iff w_frames).mpr ⟨w_running, w_runnable, w_alone, w_named, w_hears, w_ripe, w_room, w_tables⟩
theorem atStart : AtStart classFile x code maxLocals ret World_1 tables_1 room_1 Calls_1 rest_1 Pre_1 launch0 p0 e0 about1 theMethod args0 below0 :=
  ⟨lists_1, trivial, launch0.admits_env _ _ _, launch0.least_env, fairChoices_fair.cas, fairChoices_fair.clock, w_frames, w_args, w_heap, w_applies, ⟨w_consts, trivial⟩, w_rest, w_case⟩
end start1
theorem witness_1 : WitnessClaimed_1 := ⟨start1.p0, start1.e0, start1.about1, start1.theMethod, start1.args0, start1.below0, start1.atStart⟩
end Jvm.Pilot.@@N@@
