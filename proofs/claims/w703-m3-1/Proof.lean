import JvmDerived
import JvmDerived.Pilot.@@N@@Statement
import JvmDerived.Pilot.@@N@@Code
set_option linter.unusedVariables false
set_option linter.unusedSimpArgs false
namespace Jvm.Pilot.@@N@@
open Jvm Jvm.ClassFile Sem Op Lib Jvm.Free Jvm.Stand Jvm.LawKit Jvm.RoadKit Bundle Jvm.Pilot.@@N@@.Jvm.D
section Own
variable {p : Program} {l : Launch} {e : Env} {R : Room} {s : State} {m : MethodId} {args : Array Value} {below : List Frame} {meth : Method} {c : Code} {T T' : State} {locs : List Loc} {cells slots : Nat} {G : Outcome → State → Prop} {g g' : JFrame} {Z : State} {h h' h0 : Heap} {a b : Addr} {n0 : Nat} {Q : Option Value → Heap → List Loc → Prop} {CC SS : Nat}
/-- the run from T, with the frame g on top, ends as G wants it -/
def Win (p : Program) (e : Env) (below : List Frame) (G : Outcome → State → Prop) (T : State) (g : JFrame) : Prop :=
  ∃ s₂ o, Steps p.tables e below (T.setTop g) s₂ ∧ s₂.status = .running ∧ Ended s₂ below o ∧ G o s₂
theorem Win.st (W : Win p e below G T' g') (st : ∀ t, Steps p.tables e below (T'.setTop g') t → Steps p.tables e below (T.setTop g) t) : Win p e below G T g := by
  obtain ⟨s2, o, h1, h2⟩ := W
  exact ⟨s2, o, st _ h1, h2⟩
theorem Win.tr (W : Win p e below G T' g') (st : Steps p.tables e below (T.setTop g) (T'.setTop g')) : Win p e below G T g := by
  obtain ⟨s2, o, h1, h2⟩ := W
  exact ⟨s2, o, st.trans h1, h2⟩
/-- how a body ends: it returned v, Q of the value and the heap, the frame -/
def Ends (s : State) (Q : Option Value → Heap → List Loc → Prop) (CC SS : Nat) (o : Outcome) (U : State) : Prop := ∃ v L, o = .returned v ∧ Q v U.heap L ∧ FrameEnd s o U L CC SS
theorem Win.ret (X : Stand p l e R s m args below meth c T locs cells slots) (hx : p.tables.exec = Jvm.exec) (hlk : meth.locks = false) (eT : T.heap = h) {pc : Nat} {Ls : Array Slot} {w : Value} {t : FieldType} {i : Instr} {rest : List Value} (hret : meth.sig.returnType = some t) (hn : narrow t w = w)
    (hi : (i = .ireturn ∧ (t = .int ∨ t = .boolean ∨ t = .byte ∨ t = .char ∨ t = .short) ∧ ∃ z, w = .int z) ∨ (i = .lreturn ∧ t = .long ∧ ∃ z, w = .long z) ∨ (i = .dreturn ∧ t = .double ∧ ∃ z, w = .double z) ∨ (i = .freturn ∧ t = .float ∧ ∃ z, w = .float z) ∨ (i = .areturn ∧ t.isReference = true ∧ w.isRef = true))
    (hd : decode c.code pc = .ok (i, 1)) (hc : cells ≤ CC) (hs : slots ≤ SS) (hQ : Q (some w) h locs) : Win p e below (Ends s Q CC SS) T (mkF m pc Ls (w :: rest)) := by
  obtain ⟨fs, hr, hrun, hended, hW, hsame⟩ := X.leave (v := some w) (fun h => by rw [hret] at h; cases h) hlk
  subst eT
  exact ⟨_, _, retOut X hx hret hn hi hd hr, hrun, hended, _, _, rfl, hQ, ⟨_, rfl⟩, hW, hsame.mono hc hs⟩
theorem Win.retN (X : Stand p l e R s m args below meth c T locs cells slots) (hx : p.tables.exec = Jvm.exec) (hlk : meth.locks = false) (eT : T.heap = h) {pc : Nat} {Ls : Array Slot} {z z' : Int32} {t : FieldType} {rest : List Value} (hret : meth.sig.returnType = some t) (ht : t = .boolean ∨ t = .byte ∨ t = .char ∨ t = .short)
    (hd : decode c.code pc = .ok (.ireturn, 1)) (hc : cells ≤ CC) (hs : slots ≤ SS) (hz : nar t z = z') (hQ : Q (some (.int z')) h locs) : Win p e below (Ends s Q CC SS) T (mkF m pc Ls (.int z :: rest)) := by
  subst hz
  obtain ⟨fs, hr, hrun, hended, hW, hsame⟩ := X.leave (v := some (.int (nar t z))) (fun h => by rw [hret] at h; cases h) hlk
  subst eT
  exact ⟨_, _, Jvm.RoadKit.retN X hx hret ht hd hr, hrun, hended, _, _, rfl, hQ, ⟨_, rfl⟩, hW, hsame.mono hc hs⟩
theorem Win.retV (X : Stand p l e R s m args below meth c T locs cells slots) (hx : p.tables.exec = Jvm.exec) (hlk : meth.locks = false) (eT : T.heap = h) {pc : Nat} {Ls : Array Slot} (hret : meth.sig.returnType = none)
    (hd : decode c.code pc = .ok (.return_, 1)) (hc : cells ≤ CC) (hs : slots ≤ SS) (hQ : Q none h locs) : Win p e below (Ends s Q CC SS) T (mkF m pc Ls []) := by
  obtain ⟨fs, hr, hrun, hended, hW, hsame⟩ := X.leave (v := none) (fun _ => rfl) hlk
  subst eT
  exact ⟨_, _, X.returnOut hx hret hd hr, hrun, hended, _, _, rfl, hQ, ⟨_, rfl⟩, hW, hsame.mono hc hs⟩
theorem own_hide {k : Nat} {sl : Nat} (X : Stand p l e R s m args below meth c T (locs ++ [⟨a, sl⟩]) cells slots) (N : Fr k locs) (q : k ≤ a) : ∃ L, Stand p l e R s m args below meth c T L cells slots ∧ Fr k L := ⟨_, X, Fr.snoc X N q⟩
theorem own_kext (E : Ext h h') : Keep h h' [] := (Keep.refl h []).ext E
theorem own_new {x : Addr} (g : b = h.size) (q : x < h.size) : x ≠ b := Nat.ne_of_lt (g ▸ q)
theorem own_newle (Z0 : n0 ≤ h.size) (g : b = h.size) : n0 ≤ b := g ▸ Z0
theorem own_len {k : ClassId} {ty : FieldType} {z : Int32} {vs : List Value} {dv : Value} (V : Arv Z h a k ty z vs dv) : ¬ z < 0 := by obtain ⟨_, _, _, _, q, _⟩ := V; exact q
theorem own_alen {k : ClassId} {ty : FieldType} {z : Int32} {vs : List Value} {dv : Value} (X : Stand p l e R s m args below meth c T locs cells slots) (hx : p.tables.exec = Jvm.exec) (hZ : Z.Warmed39 s.vm) (eT : T.heap = h) (V : Arv Z h a k ty z vs dv) {rest : List Value} (hg : g.method = m) (hs : g.stack = .ref a :: rest) (hd : decode c.code g.pc = .ok (.arraylength, 1)) :
    ∀ target, Steps p.tables e below (T.setTop { g with pc := g.pc + 1, stack := .int z :: rest }) target → Steps p.tables e below (T.setTop g) target := by
  obtain ⟨cl, A, -, S, q, -, -⟩ := V
  intro t k
  refine X.arraylength hx (by rw [eT]; exact A.1) (State.isArrayOf_alike hZ.alike A.2.1) hg hs hd _ ?_
  rw [len_of S q]; exact k
theorem own_iald {k : ClassId} {z : Int32} {vs : List Value} {dv : Value} (X : Stand p l e R s m args below meth c T locs cells slots) (hx : p.tables.exec = Jvm.exec) (hZ : Z.Warmed39 s.vm) (eT : T.heap = h) (V : Arv Z h a k .int z vs dv) {j : Int32} {v : Value} (h1 : ¬ j < 0) (h2 : j < z) (hv : vs.getD j.toNatClampNeg dv = v) {rest : List Value} (hg : g.method = m) (hs : g.stack = .int j :: .ref a :: rest) (hd : decode c.code g.pc = .ok (.iaload, 1)) :
    ∀ target, Steps p.tables e below (T.setTop { g with pc := g.pc + 1, stack := v :: rest }) target → Steps p.tables e below (T.setTop g) target := by
  obtain ⟨cl, A, -, S, q, H, -⟩ := V
  have hin := inb_of S ⟨h1, h2⟩
  exact X.iaload hx (by rw [eT]; exact A.1) (State.isArrayOf_alike hZ.alike A.2.1) A.2.2 hin (H.at hin hv) hg hs hd
theorem own_bald {k : ClassId} {z : Int32} {vs : List Value} {dv : Value} (X : Stand p l e R s m args below meth c T locs cells slots) (hx : p.tables.exec = Jvm.exec) (hZ : Z.Warmed39 s.vm) (eT : T.heap = h) (V : Arv Z h a k .byte z vs dv) {j : Int32} {v : Value} (h1 : ¬ j < 0) (h2 : j < z) (hv : vs.getD j.toNatClampNeg dv = v) {rest : List Value} (hg : g.method = m) (hs : g.stack = .int j :: .ref a :: rest) (hd : decode c.code g.pc = .ok (.baload, 1)) :
    ∀ target, Steps p.tables e below (T.setTop { g with pc := g.pc + 1, stack := v :: rest }) target → Steps p.tables e below (T.setTop g) target := by
  obtain ⟨cl, A, -, S, q, H, -⟩ := V
  have hin := inb_of S ⟨h1, h2⟩
  exact X.baloadBytes hx (by rw [eT]; exact A.1) (State.isArrayOf_alike hZ.alike A.2.1) A.2.2 hin (H.at hin hv) hg hs hd
theorem own_cald {k : ClassId} {z : Int32} {vs : List Value} {dv : Value} (X : Stand p l e R s m args below meth c T locs cells slots) (hx : p.tables.exec = Jvm.exec) (hZ : Z.Warmed39 s.vm) (eT : T.heap = h) (V : Arv Z h a k .char z vs dv) {j : Int32} {v : Value} (h1 : ¬ j < 0) (h2 : j < z) (hv : vs.getD j.toNatClampNeg dv = v) {rest : List Value} (hg : g.method = m) (hs : g.stack = .int j :: .ref a :: rest) (hd : decode c.code g.pc = .ok (.caload, 1)) :
    ∀ target, Steps p.tables e below (T.setTop { g with pc := g.pc + 1, stack := v :: rest }) target → Steps p.tables e below (T.setTop g) target := by
  obtain ⟨cl, A, -, S, q, H, -⟩ := V
  have hin := inb_of S ⟨h1, h2⟩
  exact X.caload hx (by rw [eT]; exact A.1) (State.isArrayOf_alike hZ.alike A.2.1) A.2.2 hin (H.at hin hv) hg hs hd
theorem own_cast {k : ClassId} {z : Int32} {vs : List Value} {dv : Value} (X : Stand p l e R s m args below meth c T locs cells slots) (hx : p.tables.exec = Jvm.exec) (hZ : Z.Warmed39 s.vm) (eT : T.heap = h) (N : Fr n0 locs) (ge : n0 ≤ a) (V : Arv Z h a k .char z vs dv) {j x : Int32} (h1 : ¬ j < 0) (h2 : j < z) {i : Nat} (hj : j.toNatClampNeg = i) (hi : i < vs.length) {rest : List Value} (hg : g.method = m) (hs : g.stack = .int x :: .int j :: .ref a :: rest) (hd : decode c.code g.pc = .ok (.castore, 1)) :
    ∃ T' h' L, Stand p l e R s m args below meth c T' L cells slots ∧ Fr n0 L ∧ T'.heap = h' ∧ Keep h h' [a] ∧ Arv Z h' a k .char z (vs.set i (.int (x.toUInt32.toUInt16.toUInt32.toInt32))) dv ∧ ∀ target, Steps p.tables e below (T'.setTop { g with pc := g.pc + 1, stack := rest }) target → Steps p.tables e below (T.setTop g) target := by
  obtain ⟨cl, A, q1, S, q, H, Gf⟩ := V
  have hin := inb_of S ⟨h1, h2⟩
  obtain ⟨T', h', X', e', W, st⟩ := stC X hx hZ eT A hin hg hs hd
  exact ⟨T', h', _, X', Fr.snoc X' N ge, e', Keep.of_wr W, Arv.set A q1 S q H Gf (fits_nar_char x) W i hj hi, st⟩
theorem own_iast {k : ClassId} {z : Int32} {vs : List Value} {dv : Value} (X : Stand p l e R s m args below meth c T locs cells slots) (hx : p.tables.exec = Jvm.exec) (hZ : Z.Warmed39 s.vm) (eT : T.heap = h) (N : Fr n0 locs) (ge : n0 ≤ a) (V : Arv Z h a k .int z vs dv) {j x : Int32} (h1 : ¬ j < 0) (h2 : j < z) {i : Nat} (hj : j.toNatClampNeg = i) (hi : i < vs.length) {rest : List Value} (hg : g.method = m) (hs : g.stack = .int x :: .int j :: .ref a :: rest) (hd : decode c.code g.pc = .ok (.iastore, 1)) :
    ∃ T' h' L, Stand p l e R s m args below meth c T' L cells slots ∧ Fr n0 L ∧ T'.heap = h' ∧ Keep h h' [a] ∧ Arv Z h' a k .int z (vs.set i (.int x)) dv ∧ ∀ target, Steps p.tables e below (T'.setTop { g with pc := g.pc + 1, stack := rest }) target → Steps p.tables e below (T.setTop g) target := by
  obtain ⟨cl, A, q1, S, q, H, Gf⟩ := V
  have hin := inb_of S ⟨h1, h2⟩
  obtain ⟨T', h', X', e', W, st⟩ := stI X hx hZ eT A hin hg hs hd
  exact ⟨T', h', _, X', Fr.snoc X' N ge, e', Keep.of_wr W, Arv.set A q1 S q H Gf rfl W i hj hi, st⟩
theorem own_bast {k : ClassId} {z : Int32} {vs : List Value} {dv : Value} (X : Stand p l e R s m args below meth c T locs cells slots) (hx : p.tables.exec = Jvm.exec) (hZ : Z.Warmed39 s.vm) (eT : T.heap = h) (N : Fr n0 locs) (ge : n0 ≤ a) (V : Arv Z h a k .byte z vs dv) {j x : Int32} (h1 : ¬ j < 0) (h2 : j < z) {i : Nat} (hj : j.toNatClampNeg = i) (hi : i < vs.length) {rest : List Value} (hg : g.method = m) (hs : g.stack = .int x :: .int j :: .ref a :: rest) (hd : decode c.code g.pc = .ok (.bastore, 1)) :
    ∃ T' h' L, Stand p l e R s m args below meth c T' L cells slots ∧ Fr n0 L ∧ T'.heap = h' ∧ Keep h h' [a] ∧ Arv Z h' a k .byte z (vs.set i (.int x.toInt8.toInt32)) dv ∧ ∀ target, Steps p.tables e below (T'.setTop { g with pc := g.pc + 1, stack := rest }) target → Steps p.tables e below (T.setTop g) target := by
  obtain ⟨cl, A, q1, S, q, H, Gf⟩ := V
  have hin := inb_of S ⟨h1, h2⟩
  obtain ⟨T', h', X', e', W, st⟩ := stB X hx hZ eT A hin hg hs hd
  exact ⟨T', h', _, X', Fr.snoc X' N ge, e', Keep.of_wr W, Arv.set A q1 S q H Gf (fits_nar_byte x) W i hj hi, st⟩
/-- how a body ends that may have interned a String -/
def EndsW (s : State) (Q : Option Value → Heap → List Loc → Prop) (CC SS : Nat) (o : Outcome) (U : State) : Prop := ∃ v L, o = .returned v ∧ Q v U.heap L ∧ ReturnedEndW s o U L CC SS
theorem Win.retNW {vm₁ : Vm} {k1 : Nat} (X : Stand p l e R (s.setVm vm₁) m args below meth c T locs cells slots) (hS : s.Since vm₁ k1) (hk : k1 ≤ h.size) (hx : p.tables.exec = Jvm.exec) (hlk : meth.locks = false) (eT : T.heap = h) {pc : Nat} {Ls : Array Slot} {z z' : Int32} {t : FieldType} {rest : List Value} (hret : meth.sig.returnType = some t) (ht : t = .boolean ∨ t = .byte ∨ t = .char ∨ t = .short)
    (hd : decode c.code pc = .ok (.ireturn, 1)) (hc : cells ≤ CC) (hs : slots ≤ SS) (hz : nar t z = z') (hQ : Q (some (.int z')) h locs) : Win p e below (EndsW s Q CC SS) T (mkF m pc Ls (.int z :: rest)) := by
  subst hz
  subst eT
  obtain ⟨fs, hr, hrun, hended, h1, h2, h3, h4⟩ := X.leaveW hS hk (v := some (.int (nar t z))) (fun h => by rw [hret] at h; cases h) hlk
  exact ⟨_, _, Jvm.RoadKit.retN X hx hret ht hd hr, hrun, hended, _, _, rfl, hQ, h1, h2, h3, h4.mono hc hs⟩
theorem Win.retVW {vm₁ : Vm} {k1 : Nat} (X : Stand p l e R (s.setVm vm₁) m args below meth c T locs cells slots) (hS : s.Since vm₁ k1) (hk : k1 ≤ h.size) (hx : p.tables.exec = Jvm.exec) (hlk : meth.locks = false) (eT : T.heap = h) {pc : Nat} {Ls : Array Slot} (hret : meth.sig.returnType = none)
    (hd : decode c.code pc = .ok (.return_, 1)) (hc : cells ≤ CC) (hs : slots ≤ SS) (hQ : Q none h locs) : Win p e below (EndsW s Q CC SS) T (mkF m pc Ls []) := by
  subst eT
  obtain ⟨fs, hr, hrun, hended, h1, h2, h3, h4⟩ := X.leaveW hS hk (v := none) (fun _ => rfl) hlk
  exact ⟨_, _, X.returnOut hx hret hd hr, hrun, hended, _, _, rfl, hQ, h1, h2, h3, h4.mono hc hs⟩
theorem Win.retRW {vm₁ : Vm} {k1 : Nat} (X : Stand p l e R (s.setVm vm₁) m args below meth c T locs cells slots) (hS : s.Since vm₁ k1) (hk : k1 ≤ h.size) (hx : p.tables.exec = Jvm.exec) (hlk : meth.locks = false) (eT : T.heap = h) {pc : Nat} {Ls : Array Slot} {w : Value} {t : FieldType} {rest : List Value} (hret : meth.sig.returnType = some t) (ht : t.isReference = true) (hw : w.isRef = true) (hn : narrow t w = w)
    (hd : decode c.code pc = .ok (.areturn, 1)) (hc : cells ≤ CC) (hs : slots ≤ SS) (hQ : Q (some w) h locs) : Win p e below (EndsW s Q CC SS) T (mkF m pc Ls (w :: rest)) := by
  subst eT
  obtain ⟨fs, hr, hrun, hended, h1, h2, h3, h4⟩ := X.leaveW hS hk (v := some w) (fun h => by rw [hret] at h; cases h) hlk
  exact ⟨_, _, retOut X hx hret hn (Or.inr (Or.inr (Or.inr (Or.inr ⟨rfl, ht, hw⟩)))) hd hr, hrun, hended, _, _, rfl, hQ, h1, h2, h3, h4.mono hc hs⟩
/-- RoadKit's backOfSH for a callee that asks the invariant and doesn't give it back -/
theorem own_backOfSP {a0 : Array Value} {EL : List (String × Nat)} {vm0 : Vm} {y : MethodName} {bytes : ByteArray} {maxL : Nat} {ret : Option FieldType} {rm : Room} {len W : Nat} {as' : Array Value} {Q : Option Value → Heap → List Loc → Prop}
    (hM : MetFree l y (head1 [Jvm.Cond.code y bytes maxL ret] rm) (fun a U => a = as' ∧ Z.Warmed39 U.vm ∧ U.heap = h ∧ CHv Z EL U.vm h) (fun _ _ _ _ _ => True) (fun _ U o U' => ∃ v L, o = .returned v ∧ Q v U'.heap L ∧ ReturnedEndW U o U' L rm.cells rm.slots))
    (hZ : Z.Warmed39 vm0) (wc : (Jvm.Cond.code y bytes maxL ret).before a0 Z = true) (wz : (Jvm.Cond.initialized y.cls).before a0 Z = true) (hf : rm.frames + 1 ≤ R.frames) (hl : W + (maxL + 11) + rm.locals ≤ R.locals) (hEL : EW Z a0 EL) (H : CHv Z EL vm0 h) :
    BackS l R p e below (s.setVm vm0) args y len W (fun A a => a = as' ∧ A.U.heap = h ∧ A.cells + rm.cells ≤ R.cells ∧ A.slots + rm.slots ≤ R.slots)
      (fun A _ v B => ∃ L, Q v B.U.heap L ∧ B.locs = A.locs ++ L ∧ B.cells = A.cells + rm.cells ∧ B.slots = A.slots + rm.slots) :=
  BackS.of_freeW (bytes := bytes) (maxL := maxL) (ret := ret) (E := fun _ _ o t L k n => k = rm.cells ∧ n = rm.slots ∧ ∃ v, o = .returned v ∧ Q v t.heap L) hM hf hl
    (fun m meth c A a Y hp => have hU : Z.Warmed39 A.U.vm := wtrans (s := s.setVm vm0) hZ Y.warmed
      ⟨by show (Jvm.Cond.and _ .tt).before a A.U = true; rw [Cond.before_and, mv hU wc]; rfl, mv hU wc, mv hU wz, hp.2.2.1, hp.2.2.2⟩)
    (fun m meth c A a g mk Y hp => ⟨hp.1, wtrans (s := s.setVm vm0) hZ Y.warmed, hp.2.1, (CHv.at Y hZ hEL H).1⟩) (fun _ _ _ _ _ _ _ _ _ => trivial)
    (fun _ _ _ _ ⟨v, L, h1, h2, h3⟩ => ⟨L, _, _, h3, rfl, rfl, v, h1, h2⟩)
    (fun m meth c A a g mk v t L k n Y hp _ _ ⟨e1, e2, v', e3, e4⟩ => by cases e3; subst e1 e2; exact ⟨L, e4, rfl, rfl, rfl⟩)
theorem own_sta_keep {C n d : String} {v : Value} (F : Sta Z h C n d v) (K : Keep h h' []) : Sta Z h' C n d v := by
  obtain ⟨cf, i, k, f, st, cell, h1, h2, h3, h4, h5, r⟩ := F
  exact ⟨cf, i, k, f, st, cell, h1, h2, h3, h4, K.2.1 _ _ h5 nin0, r⟩
theorem own_nar_ref {u : Value} {C : String} (hu : u.isRef = true) : narrow (.object C) u = u := by rcases ref_cases hu with rfl | ⟨z, rfl⟩ <;> rfl
theorem own_fit_ref {u : Value} {C : String} (hu : u.isRef = true) : fits (.object C) u = true := by rcases ref_cases hu with rfl | ⟨z, rfl⟩ <;> rfl
theorem own_no {a0 : Array Value} {C K O : String} {n : Nat} (w : (Jvm.Cond.superclass C O).before a0 Z = true) (wo : (Jvm.Cond.noSuperclass O).before a0 Z = true) (wk : (Jvm.Cond.instantiable K n).before a0 Z = true) (h1 : C ≠ K) (h2 : O ≠ K) : ∃ c t, Z.vm.findClass C = some c ∧ Z.vm.findClass K = some t ∧ Z.vm.assignable c t = false := by
  obtain ⟨o, ko, o1, o2, o3, -, -⟩ := Cond.noSuperclass_spec wo
  obtain ⟨t, kt, t1, t2, t3, t4, -⟩ := Cond.instantiable_spec wk
  obtain ⟨c, c0⟩ := found_sup w
  obtain ⟨p, k, kp, p1, p2, p3, p4, p5, -, p7⟩ := Cond.superclass_spec c0 w
  cases o1.symm.trans p1
  have ne1 := ids_ne c0 t1 h1
  have ne2 := ids_ne o1 t1 h2
  simp only [Bool.or_eq_false_iff] at t4
  have n3 : ∀ fuel, Z.vm.isSubclassAux fuel c t = false := fun fuel => by
    match fuel with
    | 0 => rfl
    | 1 => simp [Vm.isSubclassAux, ne1, p2, p4]
    | f + 2 => simp [Vm.isSubclassAux, ne1, ne2, p2, p4, o2, o3]
  refine ⟨c, t, c0, t1, ?_⟩
  show Z.vm.assignableAux (255 + 1) c t = false
  simp [Vm.assignableAux, ne1, p2, t2, p5, t3, t4.1, Vm.isSubclass, n3]
theorem own_selp {y : MethodName} {n : Nat} (hi : (Jvm.Cond.instantiable y.cls n).before args s = true) (hp : s.PrivateAt y) (hm : (Jvm.Cond.instanceMethod y).before args s = true) (hy : y.cls ≠ "java/lang/invoke/MethodHandle" ∧ y.cls ≠ "java/lang/invoke/VarHandle") : (Jvm.Cond.selects y.cls y y).before args s = true := by
  obtain ⟨c, k, h1, h2, h3, h4, -⟩ := Cond.instantiable_spec hi
  exact selects_self_of_private h1 h2 (by simp only [Bool.or_eq_false_iff] at h4; exact h4.1) hp hm hy
end Own

theorem own_b8 (y : Int32) : (y.toInt8.toInt32).toInt8.toInt32 = y.toInt8.toInt32 := by simp
theorem own_lt {x y : Int32} (h : x.toInt < y.toInt) : x < y := Int32.lt_iff_toInt_lt.mpr h
theorem own_nlt {x y : Int32} (h : y.toInt ≤ x.toInt) : ¬ x < y := fun q => by have := Int32.lt_iff_toInt_lt.mp q; omega
theorem own_of_nlt {x y : Int32} (h : ¬ x < y) : y.toInt ≤ x.toInt := by rw [Int32.lt_iff_toInt_lt] at h; omega
theorem own_i0 : (0 : Int32).toInt = 0 := by decide
theorem own_i255 : (255 : Int32).toInt = 255 := by decide
theorem own_i256 : (256 : Int32).toInt = 256 := by decide
def own_max (x y : Int32) : Int32 := if x < y then y else x
/-- a value of a byte -/
def own_B (x : Int32) : Prop := 0 ≤ x.toInt ∧ x.toInt ≤ 255
theorem own_maskB (x : Int32) : own_B (x &&& 255) := by
  have q := c_mask x 255 8 (by decide) (by decide)
  unfold own_B; omega
theorem own_byte {x : Int32} (h : own_B x) : (x.toInt8.toInt32 &&& (255 : Int32)) = x := by
  have q := c_mask x.toInt8.toInt32 255 8 (by decide) (by decide)
  have r := c_i2b x
  refine Int32.toInt_inj.mp ?_
  obtain ⟨a, b⟩ := h
  omega
theorem own_char {x : Int32} (h : own_B x) : x.toUInt32.toUInt16.toUInt32.toInt32 = x := by
  have r := c_i2c x
  refine Int32.toInt_inj.mp ?_
  obtain ⟨a, b⟩ := h
  omega
theorem own_five (x : Int32) : (x &&& 2147483647) % 5 = 0 ∨ (x &&& 2147483647) % 5 = 1 ∨ (x &&& 2147483647) % 5 = 2 ∨ (x &&& 2147483647) % 5 = 3 ∨ (x &&& 2147483647) % 5 = 4 := by
  have q := c_mask x 2147483647 31 (by decide) (by decide)
  have r := (c_irem (x &&& 2147483647) 5 5 (by decide)).1 (by omega)
  have t : ((x &&& 2147483647) % 5).toInt = 0 ∨ ((x &&& 2147483647) % 5).toInt = 1 ∨ ((x &&& 2147483647) % 5).toInt = 2 ∨ ((x &&& 2147483647) % 5).toInt = 3 ∨ ((x &&& 2147483647) % 5).toInt = 4 := by omega
  rcases t with t | t | t | t | t
  · exact Or.inl (Int32.toInt_inj.mp (t.trans (by decide)))
  · exact Or.inr (Or.inl (Int32.toInt_inj.mp (t.trans (by decide))))
  · exact Or.inr (Or.inr (Or.inl (Int32.toInt_inj.mp (t.trans (by decide)))))
  · exact Or.inr (Or.inr (Or.inr (Or.inl (Int32.toInt_inj.mp (t.trans (by decide))))))
  · exact Or.inr (Or.inr (Or.inr (Or.inr (Int32.toInt_inj.mp (t.trans (by decide))))))

def own_min (x y : Int32) : Int32 := if y < x then y else x
def own_low (c : Int32) : Int32 := if c < (97 : Int32) then 0 else if (122 : Int32) < c then 0 else 1
def own_dig (c : Int32) : Int32 := if c < (48 : Int32) then 0 else if (57 : Int32) < c then 0 else 1
def own_let (c : Int32) : Int32 := if own_low c = 0 then (if c < (65 : Int32) then 0 else if (90 : Int32) < c then 0 else 1) else 1
def own_del (c : Int32) : Int32 := if c = (34 : Int32) then (1 : Int32) else if c = (40 : Int32) then (1 : Int32) else if c = (41 : Int32) then (1 : Int32) else if c = (44 : Int32) then (1 : Int32) else if c = (47 : Int32) then (1 : Int32) else if c = (58 : Int32) then (1 : Int32) else if c = (59 : Int32) then (1 : Int32) else if c = (60 : Int32) then (1 : Int32) else if c = (61 : Int32) then (1 : Int32) else if c = (62 : Int32) then (1 : Int32) else if c = (63 : Int32) then (1 : Int32) else if c = (64 : Int32) then (1 : Int32) else if c = (91 : Int32) then (1 : Int32) else if c = (92 : Int32) then (1 : Int32) else if c = (93 : Int32) then (1 : Int32) else if c = (123 : Int32) then (1 : Int32) else if c = (125 : Int32) then (1 : Int32) else (0 : Int32)
def own_tok (c : Int32) : Int32 := if own_let c = 0 then (if own_dig c = 0 then (if ¬ (c = (33 : Int32)) ∧ ¬ (c = (35 : Int32)) ∧ ¬ (c = (36 : Int32)) ∧ ¬ (c = (37 : Int32)) ∧ ¬ (c = (38 : Int32)) ∧ ¬ (c = (39 : Int32)) ∧ ¬ (c = (42 : Int32)) ∧ ¬ (c = (43 : Int32)) ∧ ¬ (c = (45 : Int32)) ∧ ¬ (c = (46 : Int32)) ∧ ¬ (c = (94 : Int32)) ∧ ¬ (c = (95 : Int32)) ∧ ¬ (c = (96 : Int32)) ∧ ¬ (c = (124 : Int32)) ∧ ¬ (c = (126 : Int32)) then 0 else 1) else 1) else 1
theorem own_tok_small (i : Fin 128) : (Int32.ofNat i.val < 33 → own_tok (Int32.ofNat i.val) = 0) ∧ (126 < Int32.ofNat i.val → own_tok (Int32.ofNat i.val) = 0) ∧ (¬ Int32.ofNat i.val < 33 → ¬ 126 < Int32.ofNat i.val → (own_del (Int32.ofNat i.val) = 0 → own_tok (Int32.ofNat i.val) = 1) ∧ (¬ own_del (Int32.ofNat i.val) = 0 → own_tok (Int32.ofNat i.val) = 0)) := by
  revert i; decide +kernel
theorem own_small {x : Int32} (h0 : 0 ≤ x.toInt) (h1 : x.toInt < 128) : ∃ i : Fin 128, x = Int32.ofNat i.val := by
  have z : (0 : Int32).toInt = 0 := by decide
  have q := nat_of (j := x) (fun q => by have := Int32.lt_iff_toInt_lt.mp q; omega)
  refine ⟨⟨x.toNatClampNeg, by omega⟩, Int32.toInt_inj.mp ?_⟩
  show x.toInt = (Int32.ofNat x.toNatClampNeg).toInt
  rw [Int32.toInt_ofNat_of_lt (by omega)]
  exact q
theorem own_nek {x k : Int32} (h : x.toInt ≠ k.toInt) : ¬ (x = k) := fun q => h (by rw [q])
theorem own_tok_big {c : Int32} (h : 128 ≤ c.toInt) : own_tok c = 0 := by
  have l1 : own_low c = 0 := by
    unfold own_low
    rw [if_neg (own_nlt (by rw [show (97 : Int32).toInt = 97 from by decide]; omega)), if_pos (own_lt (by rw [show (122 : Int32).toInt = 122 from by decide]; omega))]
  have l2 : own_let c = 0 := by
    unfold own_let
    rw [if_pos l1, if_neg (own_nlt (by rw [show (65 : Int32).toInt = 65 from by decide]; omega)), if_pos (own_lt (by rw [show (90 : Int32).toInt = 90 from by decide]; omega))]
  have l3 : own_dig c = 0 := by
    unfold own_dig
    rw [if_neg (own_nlt (by rw [show (48 : Int32).toInt = 48 from by decide]; omega)), if_pos (own_lt (by rw [show (57 : Int32).toInt = 57 from by decide]; omega))]
  unfold own_tok
  rw [if_pos l2, if_pos l3, if_pos ⟨own_nek (by rw [show (33 : Int32).toInt = 33 from by decide]; omega), own_nek (by rw [show (35 : Int32).toInt = 35 from by decide]; omega), own_nek (by rw [show (36 : Int32).toInt = 36 from by decide]; omega), own_nek (by rw [show (37 : Int32).toInt = 37 from by decide]; omega), own_nek (by rw [show (38 : Int32).toInt = 38 from by decide]; omega), own_nek (by rw [show (39 : Int32).toInt = 39 from by decide]; omega), own_nek (by rw [show (42 : Int32).toInt = 42 from by decide]; omega), own_nek (by rw [show (43 : Int32).toInt = 43 from by decide]; omega), own_nek (by rw [show (45 : Int32).toInt = 45 from by decide]; omega), own_nek (by rw [show (46 : Int32).toInt = 46 from by decide]; omega), own_nek (by rw [show (94 : Int32).toInt = 94 from by decide]; omega), own_nek (by rw [show (95 : Int32).toInt = 95 from by decide]; omega), own_nek (by rw [show (96 : Int32).toInt = 96 from by decide]; omega), own_nek (by rw [show (124 : Int32).toInt = 124 from by decide]; omega), own_nek (by rw [show (126 : Int32).toInt = 126 from by decide]; omega)⟩]
theorem own_tA {c : Int32} (h0 : 0 ≤ c.toInt) (h : c < 33) : own_tok c = 0 := by
  have q := Int32.lt_iff_toInt_lt.mp h
  rw [show (33 : Int32).toInt = 33 from by decide] at q
  obtain ⟨i, rfl⟩ := own_small h0 (by omega)
  exact (own_tok_small i).1 h
theorem own_tB {c : Int32} (h0 : 0 ≤ c.toInt) (h : 126 < c) : own_tok c = 0 := by
  by_cases b : c.toInt < 128
  · obtain ⟨i, rfl⟩ := own_small h0 b
    exact (own_tok_small i).2.1 h
  · exact own_tok_big (by omega)
theorem own_tC {c : Int32} (h0 : 0 ≤ c.toInt) (h1 : ¬ c < 33) (h2 : ¬ 126 < c) : (own_del c = 0 → own_tok c = 1) ∧ (¬ own_del c = 0 → own_tok c = 0) := by
  have q := own_of_nlt h2
  rw [show (126 : Int32).toInt = 126 from by decide] at q
  obtain ⟨i, rfl⟩ := own_small h0 (by omega)
  exact (own_tok_small i).2.2 h1 h2
theorem own_bk {c k : Int32} (hc : own_B c) (hk : own_B k) (h : k = c.toInt8.toInt32) (e : k.toInt8.toInt32 = k) : c = k := by
  have q := own_byte hc
  rw [← h] at q
  have r := own_byte hk
  rw [e] at r
  exact q.symm.trans r
theorem own_i2c0 (x : Int32) : 0 ≤ (x.toUInt32.toUInt16.toUInt32.toInt32).toInt := by
  have r := c_i2c x
  omega
/-- the String constant that the walk reads -/
def own_EL : List (String × Nat) := [("com/example/foldkey/foldkey/encoding/StructuredFields", 401)]


theorem own_shr0 (z : Int32) : z >>> ((0 : Int32) &&& 31) = z := by
  refine Int32.toInt_inj.mp ?_
  rw [c_ishr z 0 0 (by decide)]
  simp
theorem own_narc (b : Int32) : nar .char ((b &&& (255 : Int32)).toUInt32.toUInt16.toUInt32.toInt32) = b &&& 255 := by
  show ((b &&& 255).toUInt32.toUInt16.toUInt32.toInt32).toUInt32.toUInt16.toUInt32.toInt32 = _
  rw [i2c_mask, i2c_mask]
theorem own_narc1 (b : Int32) : nar .char (b &&& (255 : Int32)) = b &&& 255 := i2c_mask b

theorem d_jdk_29_method_65_0 : decode jdk_29_method_65_code 0 = .ok (.iload_n 0, 1) := by decide +kernel
theorem d_jdk_29_method_65_1 : decode jdk_29_method_65_code 1 = .ok (.iload_n 1, 1) := by decide +kernel
theorem d_jdk_29_method_65_2 : decode jdk_29_method_65_code 2 = .ok (.if_icmp .lt 7, 3) := by decide +kernel
theorem d_jdk_29_method_65_9 : decode jdk_29_method_65_code 9 = .ok (.iload_n 1, 1) := by decide +kernel
theorem d_jdk_29_method_65_10 : decode jdk_29_method_65_code 10 = .ok (.ireturn, 1) := by decide +kernel
theorem d_jdk_29_method_65_5 : decode jdk_29_method_65_code 5 = .ok (.iload_n 0, 1) := by decide +kernel
theorem d_jdk_29_method_65_6 : decode jdk_29_method_65_code 6 = .ok (.goto 4, 3) := by decide +kernel
theorem ef_max (mt : MethodId) (x : Int32) (y : Int32) : entryFrame mt #[(.int x), (.int y)] 2 = mkF mt 0 #[.val (.int x), .val (.int y)] [] := by first | (simp [entryFrame, mkF, argsToLocals, Value.category]; done) | rfl
def Q_max (Z : State) (x : Int32) (y : Int32) (h0 : Heap) (n0 : Nat) (v : Option Value) (h : Heap) (L : List Loc) : Prop := v = some (.int (own_max x y)) ∧ Fr n0 L ∧ h = h0
set_option maxRecDepth 65536 in
set_option maxHeartbeats 40000000 in
theorem rm_max (l : Launch) (Z : State) (a0 : Array Value) (hw : ∀ d ∈ tables_1, d.before a0 Z = true) (ws : List Jvm.Cond) (x : Int32) (y : Int32) (h0 : Heap) (n0 : Nat) (Z0 : n0 ≤ h0.size) :
    MetFree l (⟨"java/lang/Math", "max", "(II)I"⟩ : MethodName) (head1 (Jvm.Cond.code (⟨"java/lang/Math", "max", "(II)I"⟩ : MethodName) jdk_29_method_65_code 2 (some .int) :: ws) ({ frames := 0, cells := 0, slots := 0, locals := 0 } : Room)) (fun aa UU => aa = #[(.int x), (.int y)] ∧ Z.Warmed39 UU.vm ∧ UU.heap = h0) (fun _ _ _ _ _ => True) (fun _ UU oo UU' => ∃ vv LL, oo = .returned vv ∧ Q_max Z x y h0 n0 vv UU'.heap LL ∧ FrameEnd UU oo UU' LL ({ frames := 0, cells := 0, slots := 0, locals := 0 } : Room).cells ({ frames := 0, cells := 0, slots := 0, locals := 0 } : Room).slots) := by
  refine MetFree.of_bodySF (Jvm.Free.JP.mathPlain rfl (by decide +kernel)) hisR ?_
  intro p e s mt args below meth cd s₁ Bd hml0 hP hK
  obtain ⟨hA, hZ, hh⟩ := hP
  have hx := Bd.exec
  have hby := Bd.bytes
  have hml : cd.maxLocals = 2 := hml0
  have hown : s.vm.findClass "java/lang/Math" = some mt.cls := findClass_of_methodNamed Bd.named
  have hnm := (name_of_methodNamed Bd.named Bd.method).1
  have hlk : meth.locks = false := BodyLoose.notSynchronized Bd
  have hrt := Bd.returns
  have X0 : Stand p l e ({ frames := 0, cells := 0, slots := 0, locals := 0 } : Room) s mt args below meth cd s₁ [] 0 0 := Stand.of_body Bd
  have e0 : s₁.heap = h0 := by rw [← hh, Bd.state]; rfl
  have N0 := Fr.nil n0
  show Win p e below (Ends s (Q_max Z x y h0 n0) ({ frames := 0, cells := 0, slots := 0, locals := 0 } : Room).cells ({ frames := 0, cells := 0, slots := 0, locals := 0 } : Room).slots) s₁ (entryFrame mt args 2)
  rw [hA, ef_max]
  refine Win.st ?_ (fun tq kq => XS.iloadN X0.here hx rfl (hb hby d_jdk_29_method_65_0) rfl kq)
  show Win p e below _ s₁ (mkF mt 1 #[.val (.int x), .val (.int y)] [(.int x)])
  refine Win.st ?_ (fun tq kq => XS.iloadN X0.here hx rfl (hb hby d_jdk_29_method_65_1) rfl kq)
  show Win p e below _ s₁ (mkF mt 2 #[.val (.int x), .val (.int y)] [(.int y), (.int x)])
  by_cases hc : x < y
  · refine Win.st ?_ (fun tq kq => XS.icmpYes X0.here hx rfl (pc0 := 2) (pc' := 9) rfl (hb hby d_jdk_29_method_65_2) rfl (tlt hc).1 (by decide) (by decide) kq)
    show Win p e below _ s₁ (mkF mt 9 #[.val (.int x), .val (.int y)] [])
    refine Win.st ?_ (fun tq kq => XS.iloadN X0.here hx rfl (hb hby d_jdk_29_method_65_9) rfl kq)
    show Win p e below _ s₁ (mkF mt 10 #[.val (.int x), .val (.int y)] [(.int y)])
    exact Win.ret X0 hx hlk e0 hrt rfl (Or.inl ⟨rfl, Or.inl rfl, _, rfl⟩) (hb hby d_jdk_29_method_65_10) (by decide) (by decide) ⟨by simp only [own_max, hc, if_true, if_false], N0, rfl⟩
  · refine Win.st ?_ (fun tq kq => XS.icmpNo X0.here hx rfl (hb hby d_jdk_29_method_65_2) rfl (flt hc).1 kq)
    show Win p e below _ s₁ (mkF mt 5 #[.val (.int x), .val (.int y)] [])
    refine Win.st ?_ (fun tq kq => XS.iloadN X0.here hx rfl (hb hby d_jdk_29_method_65_5) rfl kq)
    show Win p e below _ s₁ (mkF mt 6 #[.val (.int x), .val (.int y)] [(.int x)])
    refine Win.st ?_ (fun tq kq => XS.goto X0.here hx rfl (pc0 := 6) (pc' := 10) rfl (hb hby d_jdk_29_method_65_6) (by decide) (by decide) kq)
    show Win p e below _ s₁ (mkF mt 10 #[.val (.int x), .val (.int y)] [(.int x)])
    exact Win.ret X0 hx hlk e0 hrt rfl (Or.inl ⟨rfl, Or.inl rfl, _, rfl⟩) (hb hby d_jdk_29_method_65_10) (by decide) (by decide) ⟨by simp only [own_max, hc, if_true, if_false], N0, rfl⟩
theorem d_jdk_29_method_69_0 : decode jdk_29_method_69_code 0 = .ok (.iload_n 0, 1) := by decide +kernel
theorem d_jdk_29_method_69_1 : decode jdk_29_method_69_code 1 = .ok (.iload_n 1, 1) := by decide +kernel
theorem d_jdk_29_method_69_2 : decode jdk_29_method_69_code 2 = .ok (.if_icmp .gt 7, 3) := by decide +kernel
theorem d_jdk_29_method_69_9 : decode jdk_29_method_69_code 9 = .ok (.iload_n 1, 1) := by decide +kernel
theorem d_jdk_29_method_69_10 : decode jdk_29_method_69_code 10 = .ok (.ireturn, 1) := by decide +kernel
theorem d_jdk_29_method_69_5 : decode jdk_29_method_69_code 5 = .ok (.iload_n 0, 1) := by decide +kernel
theorem d_jdk_29_method_69_6 : decode jdk_29_method_69_code 6 = .ok (.goto 4, 3) := by decide +kernel
theorem ef_min (mt : MethodId) (x : Int32) (y : Int32) : entryFrame mt #[(.int x), (.int y)] 2 = mkF mt 0 #[.val (.int x), .val (.int y)] [] := by first | (simp [entryFrame, mkF, argsToLocals, Value.category]; done) | rfl
def Q_min (Z : State) (x : Int32) (y : Int32) (h0 : Heap) (n0 : Nat) (v : Option Value) (h : Heap) (L : List Loc) : Prop := v = some (.int (own_min x y)) ∧ Fr n0 L ∧ h = h0
set_option maxRecDepth 65536 in
set_option maxHeartbeats 40000000 in
theorem rm_min (l : Launch) (Z : State) (a0 : Array Value) (hw : ∀ d ∈ tables_1, d.before a0 Z = true) (ws : List Jvm.Cond) (x : Int32) (y : Int32) (h0 : Heap) (n0 : Nat) (Z0 : n0 ≤ h0.size) :
    MetFree l (⟨"java/lang/Math", "min", "(II)I"⟩ : MethodName) (head1 (Jvm.Cond.code (⟨"java/lang/Math", "min", "(II)I"⟩ : MethodName) jdk_29_method_69_code 2 (some .int) :: ws) ({ frames := 0, cells := 0, slots := 0, locals := 0 } : Room)) (fun aa UU => aa = #[(.int x), (.int y)] ∧ Z.Warmed39 UU.vm ∧ UU.heap = h0) (fun _ _ _ _ _ => True) (fun _ UU oo UU' => ∃ vv LL, oo = .returned vv ∧ Q_min Z x y h0 n0 vv UU'.heap LL ∧ FrameEnd UU oo UU' LL ({ frames := 0, cells := 0, slots := 0, locals := 0 } : Room).cells ({ frames := 0, cells := 0, slots := 0, locals := 0 } : Room).slots) := by
  refine MetFree.of_bodySF (Jvm.Free.JP.mathPlain rfl (by decide +kernel)) hisR ?_
  intro p e s mt args below meth cd s₁ Bd hml0 hP hK
  obtain ⟨hA, hZ, hh⟩ := hP
  have hx := Bd.exec
  have hby := Bd.bytes
  have hml : cd.maxLocals = 2 := hml0
  have hown : s.vm.findClass "java/lang/Math" = some mt.cls := findClass_of_methodNamed Bd.named
  have hnm := (name_of_methodNamed Bd.named Bd.method).1
  have hlk : meth.locks = false := BodyLoose.notSynchronized Bd
  have hrt := Bd.returns
  have X0 : Stand p l e ({ frames := 0, cells := 0, slots := 0, locals := 0 } : Room) s mt args below meth cd s₁ [] 0 0 := Stand.of_body Bd
  have e0 : s₁.heap = h0 := by rw [← hh, Bd.state]; rfl
  have N0 := Fr.nil n0
  show Win p e below (Ends s (Q_min Z x y h0 n0) ({ frames := 0, cells := 0, slots := 0, locals := 0 } : Room).cells ({ frames := 0, cells := 0, slots := 0, locals := 0 } : Room).slots) s₁ (entryFrame mt args 2)
  rw [hA, ef_min]
  refine Win.st ?_ (fun tq kq => XS.iloadN X0.here hx rfl (hb hby d_jdk_29_method_69_0) rfl kq)
  show Win p e below _ s₁ (mkF mt 1 #[.val (.int x), .val (.int y)] [(.int x)])
  refine Win.st ?_ (fun tq kq => XS.iloadN X0.here hx rfl (hb hby d_jdk_29_method_69_1) rfl kq)
  show Win p e below _ s₁ (mkF mt 2 #[.val (.int x), .val (.int y)] [(.int y), (.int x)])
  by_cases hc : y < x
  · refine Win.st ?_ (fun tq kq => XS.icmpYes X0.here hx rfl (pc0 := 2) (pc' := 9) rfl (hb hby d_jdk_29_method_69_2) rfl (tlt hc).2.2.1 (by decide) (by decide) kq)
    show Win p e below _ s₁ (mkF mt 9 #[.val (.int x), .val (.int y)] [])
    refine Win.st ?_ (fun tq kq => XS.iloadN X0.here hx rfl (hb hby d_jdk_29_method_69_9) rfl kq)
    show Win p e below _ s₁ (mkF mt 10 #[.val (.int x), .val (.int y)] [(.int y)])
    exact Win.ret X0 hx hlk e0 hrt rfl (Or.inl ⟨rfl, Or.inl rfl, _, rfl⟩) (hb hby d_jdk_29_method_69_10) (by decide) (by decide) ⟨by simp only [own_min, hc, if_true, if_false], N0, rfl⟩
  · refine Win.st ?_ (fun tq kq => XS.icmpNo X0.here hx rfl (hb hby d_jdk_29_method_69_2) rfl (flt hc).2.2.1 kq)
    show Win p e below _ s₁ (mkF mt 5 #[.val (.int x), .val (.int y)] [])
    refine Win.st ?_ (fun tq kq => XS.iloadN X0.here hx rfl (hb hby d_jdk_29_method_69_5) rfl kq)
    show Win p e below _ s₁ (mkF mt 6 #[.val (.int x), .val (.int y)] [(.int x)])
    refine Win.st ?_ (fun tq kq => XS.goto X0.here hx rfl (pc0 := 6) (pc' := 10) rfl (hb hby d_jdk_29_method_69_6) (by decide) (by decide) kq)
    show Win p e below _ s₁ (mkF mt 10 #[.val (.int x), .val (.int y)] [(.int x)])
    exact Win.ret X0 hx hlk e0 hrt rfl (Or.inl ⟨rfl, Or.inl rfl, _, rfl⟩) (hb hby d_jdk_29_method_69_10) (by decide) (by decide) ⟨by simp only [own_min, hc, if_true, if_false], N0, rfl⟩
theorem d_jdk_42_method_154_0 : decode jdk_42_method_154_code 0 = .ok (.getstatic 38, 3) := by decide +kernel
theorem d_jdk_42_method_154_3 : decode jdk_42_method_154_code 3 = .ok (.ifCond .eq 14, 3) := by decide +kernel
theorem d_jdk_42_method_154_6 : decode jdk_42_method_154_code 6 = .ok (.aload_n 0, 1) := by decide +kernel
theorem d_jdk_42_method_154_7 : decode jdk_42_method_154_code 7 = .ok (.getfield 15, 3) := by decide +kernel
theorem d_jdk_42_method_154_10 : decode jdk_42_method_154_code 10 = .ok (.ifCond .ne 7, 3) := by decide +kernel
theorem d_jdk_42_method_154_13 : decode jdk_42_method_154_code 13 = .ok (.iconst 1, 1) := by decide +kernel
theorem d_jdk_42_method_154_14 : decode jdk_42_method_154_code 14 = .ok (.goto 4, 3) := by decide +kernel
theorem d_jdk_42_method_154_18 : decode jdk_42_method_154_code 18 = .ok (.ireturn, 1) := by decide +kernel
theorem pn_0 : plainName "java/lang/String" = true := by first | (simp [plainName, overriddenIn]; done) | decide +kernel
theorem ef_islatin1 (mt : MethodId) (a : Addr) : entryFrame mt #[(.ref a)] 1 = mkF mt 0 #[.val (.ref a)] [] := by first | (simp [entryFrame, mkF, argsToLocals, Value.category]; done) | rfl
def Q_islatin1 (Z : State) (a : Addr) (cs : Int32) (h0 : Heap) (n0 : Nat) (v : Option Value) (h : Heap) (L : List Loc) : Prop := v = some (.int (1 : Int32)) ∧ Fr n0 L ∧ h = h0
set_option maxRecDepth 65536 in
set_option maxHeartbeats 40000000 in
theorem rm_islatin1 (l : Launch) (Z : State) (a0 : Array Value) (hw : ∀ d ∈ tables_1, d.before a0 Z = true) (ws : List Jvm.Cond) (a : Addr) (cs : Int32) (h0 : Heap) (n0 : Nat) (Z0 : n0 ≤ h0.size) (Fc : Fld Z h0 a "java/lang/String" "coder" "B" (.int (0 : Int32))) (S0 : Sta Z Z.heap "java/lang/String" "COMPACT_STRINGS" "Z" (.int cs)) (hcs : ¬ cs = (0 : Int32)) (O : Old Z n0 h0) :
    MetFree l (⟨"java/lang/String", "isLatin1", "()Z"⟩ : MethodName) (head1 (Jvm.Cond.code (⟨"java/lang/String", "isLatin1", "()Z"⟩ : MethodName) jdk_42_method_154_code 1 (some .boolean) :: ws) ({ frames := 0, cells := 0, slots := 0, locals := 0 } : Room)) (fun aa UU => aa = #[(.ref a)] ∧ Z.Warmed39 UU.vm ∧ UU.heap = h0) (fun _ _ _ _ _ => True) (fun _ UU oo UU' => ∃ vv LL, oo = .returned vv ∧ Q_islatin1 Z a cs h0 n0 vv UU'.heap LL ∧ FrameEnd UU oo UU' LL ({ frames := 0, cells := 0, slots := 0, locals := 0 } : Room).cells ({ frames := 0, cells := 0, slots := 0, locals := 0 } : Room).slots) := by
  refine MetFree.of_bodySF (plainFor_of_name pn_0) hisR ?_
  intro p e s mt args below meth cd s₁ Bd hml0 hP hK
  obtain ⟨hA, hZ, hh⟩ := hP
  have hx := Bd.exec
  have hby := Bd.bytes
  have hml : cd.maxLocals = 1 := hml0
  have hown : s.vm.findClass "java/lang/String" = some mt.cls := findClass_of_methodNamed Bd.named
  have hnm := (name_of_methodNamed Bd.named Bd.method).1
  have hlk : meth.locks = false := BodyLoose.notSynchronized Bd
  have hrt := Bd.returns
  have X0 : Stand p l e ({ frames := 0, cells := 0, slots := 0, locals := 0 } : Room) s mt args below meth cd s₁ [] 0 0 := Stand.of_body Bd
  have e0 : s₁.heap = h0 := by rw [← hh, Bd.state]; rfl
  have N0 := Fr.nil n0
  show Win p e below (Ends s (Q_islatin1 Z a cs h0 n0) ({ frames := 0, cells := 0, slots := 0, locals := 0 } : Room).cells ({ frames := 0, cells := 0, slots := 0, locals := 0 } : Room).slots) s₁ (entryFrame mt args 1)
  rw [hA, ef_islatin1]
  obtain ⟨T11, X11, e11, st11⟩ := getS2 X0 hx hZ hown (host := "") (Or.inl (hw _ (List.mem_of_getElem? (i := 37) rfl))) Via.refl e0 (S0.ext O.2) (g := (mkF mt 0 #[.val (.ref a)] [])) rfl (hb hby d_jdk_42_method_154_0)
  refine Win.st ?_ st11
  show Win p e below _ T11 (mkF mt 3 #[.val (.ref a)] [(.int cs)])
  refine Win.st ?_ (fun tq kq => XS.ifNo X11.here hx rfl (hb hby d_jdk_42_method_154_3) rfl ((if0 _ _).trans (feq hcs).1) kq)
  show Win p e below _ T11 (mkF mt 6 #[.val (.ref a)] [])
  refine Win.st ?_ (fun tq kq => XS.aloadN X11.here hx rfl (hb hby d_jdk_42_method_154_6) rfl rfl kq)
  show Win p e below _ T11 (mkF mt 7 #[.val (.ref a)] [(.ref a)])
  obtain ⟨T12, X12, e12, st12⟩ := getF X11 hx hZ hown (host := "") (Or.inl (hw _ (List.mem_of_getElem? (i := 38) rfl))) Via.refl e11 Fc (g := (mkF mt 7 #[.val (.ref a)] [(.ref a)])) rfl rfl (hb hby d_jdk_42_method_154_7)
  refine Win.st ?_ st12
  show Win p e below _ T12 (mkF mt 10 #[.val (.ref a)] [(.int (0 : Int32))])
  refine Win.st ?_ (fun tq kq => XS.ifNo X12.here hx rfl (hb hby d_jdk_42_method_154_10) rfl ((if0 _ _).trans (teq (rfl : (0 : Int32) = (0 : Int32))).2) kq)
  show Win p e below _ T12 (mkF mt 13 #[.val (.ref a)] [])
  refine Win.st ?_ (fun tq kq => XS.iconst X12.here hx rfl (hb hby d_jdk_42_method_154_13) kq)
  show Win p e below _ T12 (mkF mt 14 #[.val (.ref a)] [(.int (1 : Int32))])
  refine Win.st ?_ (fun tq kq => XS.goto X12.here hx rfl (pc0 := 14) (pc' := 18) rfl (hb hby d_jdk_42_method_154_14) (by decide) (by decide) kq)
  show Win p e below _ T12 (mkF mt 18 #[.val (.ref a)] [(.int (1 : Int32))])
  exact Win.retN X12 hx hlk e12 (t := .boolean) (z' := (1 : Int32)) hrt (by simp) (hb hby d_jdk_42_method_154_18) (by decide) (by decide) rfl ⟨rfl, N0, rfl⟩
theorem d_jdk_42_method_152_0 : decode jdk_42_method_152_code 0 = .ok (.getstatic 38, 3) := by decide +kernel
theorem d_jdk_42_method_152_3 : decode jdk_42_method_152_code 3 = .ok (.ifCond .eq 10, 3) := by decide +kernel
theorem d_jdk_42_method_152_6 : decode jdk_42_method_152_code 6 = .ok (.aload_n 0, 1) := by decide +kernel
theorem d_jdk_42_method_152_7 : decode jdk_42_method_152_code 7 = .ok (.getfield 15, 3) := by decide +kernel
theorem d_jdk_42_method_152_10 : decode jdk_42_method_152_code 10 = .ok (.goto 4, 3) := by decide +kernel
theorem d_jdk_42_method_152_14 : decode jdk_42_method_152_code 14 = .ok (.ireturn, 1) := by decide +kernel
theorem ef_coder (mt : MethodId) (a : Addr) : entryFrame mt #[(.ref a)] 1 = mkF mt 0 #[.val (.ref a)] [] := by first | (simp [entryFrame, mkF, argsToLocals, Value.category]; done) | rfl
def Q_coder (Z : State) (a : Addr) (cs : Int32) (h0 : Heap) (n0 : Nat) (v : Option Value) (h : Heap) (L : List Loc) : Prop := v = some (.int (0 : Int32)) ∧ Fr n0 L ∧ h = h0
set_option maxRecDepth 65536 in
set_option maxHeartbeats 40000000 in
theorem rm_coder (l : Launch) (Z : State) (a0 : Array Value) (hw : ∀ d ∈ tables_1, d.before a0 Z = true) (ws : List Jvm.Cond) (a : Addr) (cs : Int32) (h0 : Heap) (n0 : Nat) (Z0 : n0 ≤ h0.size) (Fc : Fld Z h0 a "java/lang/String" "coder" "B" (.int (0 : Int32))) (S0 : Sta Z Z.heap "java/lang/String" "COMPACT_STRINGS" "Z" (.int cs)) (hcs : ¬ cs = (0 : Int32)) (O : Old Z n0 h0) :
    MetFree l (⟨"java/lang/String", "coder", "()B"⟩ : MethodName) (head1 (Jvm.Cond.code (⟨"java/lang/String", "coder", "()B"⟩ : MethodName) jdk_42_method_152_code 1 (some .byte) :: ws) ({ frames := 0, cells := 0, slots := 0, locals := 0 } : Room)) (fun aa UU => aa = #[(.ref a)] ∧ Z.Warmed39 UU.vm ∧ UU.heap = h0) (fun _ _ _ _ _ => True) (fun _ UU oo UU' => ∃ vv LL, oo = .returned vv ∧ Q_coder Z a cs h0 n0 vv UU'.heap LL ∧ FrameEnd UU oo UU' LL ({ frames := 0, cells := 0, slots := 0, locals := 0 } : Room).cells ({ frames := 0, cells := 0, slots := 0, locals := 0 } : Room).slots) := by
  refine MetFree.of_bodySF (plainFor_of_name pn_0) hisR ?_
  intro p e s mt args below meth cd s₁ Bd hml0 hP hK
  obtain ⟨hA, hZ, hh⟩ := hP
  have hx := Bd.exec
  have hby := Bd.bytes
  have hml : cd.maxLocals = 1 := hml0
  have hown : s.vm.findClass "java/lang/String" = some mt.cls := findClass_of_methodNamed Bd.named
  have hnm := (name_of_methodNamed Bd.named Bd.method).1
  have hlk : meth.locks = false := BodyLoose.notSynchronized Bd
  have hrt := Bd.returns
  have X0 : Stand p l e ({ frames := 0, cells := 0, slots := 0, locals := 0 } : Room) s mt args below meth cd s₁ [] 0 0 := Stand.of_body Bd
  have e0 : s₁.heap = h0 := by rw [← hh, Bd.state]; rfl
  have N0 := Fr.nil n0
  show Win p e below (Ends s (Q_coder Z a cs h0 n0) ({ frames := 0, cells := 0, slots := 0, locals := 0 } : Room).cells ({ frames := 0, cells := 0, slots := 0, locals := 0 } : Room).slots) s₁ (entryFrame mt args 1)
  rw [hA, ef_coder]
  obtain ⟨T13, X13, e13, st13⟩ := getS2 X0 hx hZ hown (host := "") (Or.inl (hw _ (List.mem_of_getElem? (i := 37) rfl))) Via.refl e0 (S0.ext O.2) (g := (mkF mt 0 #[.val (.ref a)] [])) rfl (hb hby d_jdk_42_method_152_0)
  refine Win.st ?_ st13
  show Win p e below _ T13 (mkF mt 3 #[.val (.ref a)] [(.int cs)])
  refine Win.st ?_ (fun tq kq => XS.ifNo X13.here hx rfl (hb hby d_jdk_42_method_152_3) rfl ((if0 _ _).trans (feq hcs).1) kq)
  show Win p e below _ T13 (mkF mt 6 #[.val (.ref a)] [])
  refine Win.st ?_ (fun tq kq => XS.aloadN X13.here hx rfl (hb hby d_jdk_42_method_152_6) rfl rfl kq)
  show Win p e below _ T13 (mkF mt 7 #[.val (.ref a)] [(.ref a)])
  obtain ⟨T14, X14, e14, st14⟩ := getF X13 hx hZ hown (host := "") (Or.inl (hw _ (List.mem_of_getElem? (i := 38) rfl))) Via.refl e13 Fc (g := (mkF mt 7 #[.val (.ref a)] [(.ref a)])) rfl rfl (hb hby d_jdk_42_method_152_7)
  refine Win.st ?_ st14
  show Win p e below _ T14 (mkF mt 10 #[.val (.ref a)] [(.int (0 : Int32))])
  refine Win.st ?_ (fun tq kq => XS.goto X14.here hx rfl (pc0 := 10) (pc' := 14) rfl (hb hby d_jdk_42_method_152_10) (by decide) (by decide) kq)
  show Win p e below _ T14 (mkF mt 14 #[.val (.ref a)] [(.int (0 : Int32))])
  exact Win.retN X14 hx hlk e14 (t := .byte) (z' := (0 : Int32)) hrt (by simp) (hb hby d_jdk_42_method_152_14) (by decide) (by decide) rfl ⟨rfl, N0, rfl⟩
theorem d_jdk_42_method_54_0 : decode jdk_42_method_54_code 0 = .ok (.aload_n 0, 1) := by decide +kernel
theorem d_jdk_42_method_54_1 : decode jdk_42_method_54_code 1 = .ok (.getfield 9, 3) := by decide +kernel
theorem d_jdk_42_method_54_4 : decode jdk_42_method_54_code 4 = .ok (.arraylength, 1) := by decide +kernel
theorem d_jdk_42_method_54_5 : decode jdk_42_method_54_code 5 = .ok (.aload_n 0, 1) := by decide +kernel
theorem d_jdk_42_method_54_6 : decode jdk_42_method_54_code 6 = .ok (.invokevirtual 335, 3) := by decide +kernel
theorem pd_0 : parseMethodDescriptor "()B" = some ⟨[], some .byte⟩ := by decide +kernel
theorem d_jdk_42_method_54_9 : decode jdk_42_method_54_code 9 = .ok (.ishr, 1) := by decide +kernel
theorem d_jdk_42_method_54_10 : decode jdk_42_method_54_code 10 = .ok (.ireturn, 1) := by decide +kernel
theorem ef_slen (mt : MethodId) (a : Addr) : entryFrame mt #[(.ref a)] 1 = mkF mt 0 #[.val (.ref a)] [] := by first | (simp [entryFrame, mkF, argsToLocals, Value.category]; done) | rfl
def Q_slen (Z : State) (a : Addr) (b : Addr) (k : ClassId) (z : Int32) (vs : List Value) (cs : Int32) (h0 : Heap) (n0 : Nat) (v : Option Value) (h : Heap) (L : List Loc) : Prop := v = some (.int z) ∧ Fr n0 L ∧ h = h0
set_option maxRecDepth 65536 in
set_option maxHeartbeats 40000000 in
theorem rm_slen (l : Launch) (Z : State) (a0 : Array Value) (hw : ∀ d ∈ tables_1, d.before a0 Z = true) (ws : List Jvm.Cond) (a : Addr) (b : Addr) (k : ClassId) (z : Int32) (vs : List Value) (cs : Int32) (h0 : Heap) (n0 : Nat) (Z0 : n0 ≤ h0.size) (E : Exa Z h0 a "java/lang/String") (Fv : Fld Z h0 a "java/lang/String" "value" "[B" (.ref b)) (Fc : Fld Z h0 a "java/lang/String" "coder" "B" (.int (0 : Int32))) (V : Arv Z h0 b k .byte z vs (.int (0 : Int32))) (S0 : Sta Z Z.heap "java/lang/String" "COMPACT_STRINGS" "Z" (.int cs)) (hcs : ¬ cs = (0 : Int32)) (O : Old Z n0 h0) :
    MetFree l (⟨"java/lang/String", "length", "()I"⟩ : MethodName) (head1 (Jvm.Cond.code (⟨"java/lang/String", "length", "()I"⟩ : MethodName) jdk_42_method_54_code 1 (some .int) :: ws) ({ frames := 1, cells := 0, slots := 0, locals := 13 } : Room)) (fun aa UU => aa = #[(.ref a)] ∧ Z.Warmed39 UU.vm ∧ UU.heap = h0) (fun _ _ _ _ _ => True) (fun _ UU oo UU' => ∃ vv LL, oo = .returned vv ∧ Q_slen Z a b k z vs cs h0 n0 vv UU'.heap LL ∧ FrameEnd UU oo UU' LL ({ frames := 1, cells := 0, slots := 0, locals := 13 } : Room).cells ({ frames := 1, cells := 0, slots := 0, locals := 13 } : Room).slots) := by
  refine MetFree.of_bodySF (plainFor_of_name pn_0) hisR ?_
  intro p e s mt args below meth cd s₁ Bd hml0 hP hK
  obtain ⟨hA, hZ, hh⟩ := hP
  have hx := Bd.exec
  have hby := Bd.bytes
  have hml : cd.maxLocals = 1 := hml0
  have hown : s.vm.findClass "java/lang/String" = some mt.cls := findClass_of_methodNamed Bd.named
  have hnm := (name_of_methodNamed Bd.named Bd.method).1
  have hlk : meth.locks = false := BodyLoose.notSynchronized Bd
  have hrt := Bd.returns
  have X0 : Stand p l e ({ frames := 1, cells := 0, slots := 0, locals := 13 } : Room) s mt args below meth cd s₁ [] 0 0 := Stand.of_body Bd
  have e0 : s₁.heap = h0 := by rw [← hh, Bd.state]; rfl
  have N0 := Fr.nil n0
  show Win p e below (Ends s (Q_slen Z a b k z vs cs h0 n0) ({ frames := 1, cells := 0, slots := 0, locals := 13 } : Room).cells ({ frames := 1, cells := 0, slots := 0, locals := 13 } : Room).slots) s₁ (entryFrame mt args 1)
  rw [hA, ef_slen]
  refine Win.st ?_ (fun tq kq => XS.aloadN X0.here hx rfl (hb hby d_jdk_42_method_54_0) rfl rfl kq)
  show Win p e below _ s₁ (mkF mt 1 #[.val (.ref a)] [(.ref a)])
  obtain ⟨T15, X15, e15, st15⟩ := getF X0 hx hZ hown (host := "") (Or.inl (hw _ (List.mem_of_getElem? (i := 39) rfl))) Via.refl e0 Fv (g := (mkF mt 1 #[.val (.ref a)] [(.ref a)])) rfl rfl (hb hby d_jdk_42_method_54_1)
  refine Win.st ?_ st15
  show Win p e below _ T15 (mkF mt 4 #[.val (.ref a)] [(.ref b)])
  refine Win.st ?_ (own_alen (g := (mkF mt 4 #[.val (.ref a)] [(.ref b)])) X15 hx hZ e15 V rfl rfl (hb hby d_jdk_42_method_54_4))
  show Win p e below _ T15 (mkF mt 5 #[.val (.ref a)] [(.int z)])
  refine Win.st ?_ (fun tq kq => XS.aloadN X15.here hx rfl (hb hby d_jdk_42_method_54_5) rfl rfl kq)
  show Win p e below _ T15 (mkF mt 6 #[.val (.ref a)] [(.ref a), (.int z)])
  obtain ⟨cq16, kq16, q16a, q16b, q16c⟩ := isOf hZ e15 E
  obtain ⟨v16, _, ⟨T16, L16, k16, n16⟩, -, X16, ⟨Lc16, hQ16, l16, y16, z16⟩, st16⟩ := X15.virtualBack hx (y := (⟨"java/lang/String", "coder", "()B"⟩ : MethodName)) (z := (⟨"java/lang/String", "coder", "()B"⟩ : MethodName)) hown (mvT hZ (hw _ (List.mem_of_getElem? (i := 45) rfl))) (mvT hZ (hw _ (List.mem_of_getElem? (i := 46) rfl))) (notFace_of_selects (args := #[]) (mvT hZ (hw _ (List.mem_of_getElem? (i := 48) rfl)))) (mvT hZ (hw _ (List.mem_of_getElem? (i := 48) rfl))) (mvT hZ (hw _ (List.mem_of_getElem? (i := 47) rfl))) (by decide) (backOf (W := 1) (rm_coder l Z a0 hw [] a cs h0 n0 Z0 Fc S0 hcs O) hZ (hw _ (List.mem_of_getElem? (i := 49) rfl)) (hw _ (List.mem_of_getElem? (i := 15) rfl)) (by decide) (by decide)) q16a q16c (g := (mkF mt 6 #[.val (.ref a)] [(.ref a), (.int z)])) rfl (by rw [hml]; rfl) (Steps.refl _) (argsL := []) (rest := [(.int z)]) (lenOf pd_0 rfl) rfl (by show 2 * 0 + _ ≤ _; exact Nat.le_of_eq rfl) (hb hby d_jdk_42_method_54_6) (fun _ _ => ⟨rfl, e15, (by decide : 0 + 0 ≤ _), (by decide : 0 + 0 ≤ _)⟩)
  dsimp only [Pt.U, Pt.locs, Pt.cells, Pt.slots] at X16 l16 y16 z16 st16 hQ16
  subst y16 z16
  replace X16 : Stand p l e _ s mt args below meth cd T16 L16 0 0 := X16
  obtain ⟨h16, e16⟩ : ∃ z, T16.heap = z := ⟨_, rfl⟩
  rw [e16] at hQ16
  obtain ⟨rfl, Nq16, eh16⟩ := hQ16
  have N16 : Fr n0 L16 := by rw [l16]; exact Fr.app N0 Nq16
  rw [eh16] at e16
  refine Win.tr ?_ st16
  show Win p e below _ T16 (mkF mt 9 #[.val (.ref a)] [(.int (0 : Int32)), (.int z)])
  refine Win.st ?_ (fun tq kq => XS.ishr X16.here hx rfl (hb hby d_jdk_42_method_54_9) rfl kq)
  show Win p e below _ T16 (mkF mt 10 #[.val (.ref a)] [(.int (z >>> ((0 : Int32) &&& 31)))])
  exact Win.ret X16 hx hlk e16 hrt rfl (Or.inl ⟨rfl, Or.inl rfl, _, rfl⟩) (hb hby d_jdk_42_method_54_10) (by decide) (by decide) ⟨by rw [own_shr0], N16, rfl⟩
theorem d_prog_10_method_26_0 : decode prog_10_method_26_code 0 = .ok (.iload_n 0, 1) := by decide +kernel
theorem d_prog_10_method_26_1 : decode prog_10_method_26_code 1 = .ok (.bipush 97, 2) := by decide +kernel
theorem d_prog_10_method_26_3 : decode prog_10_method_26_code 3 = .ok (.if_icmp .lt 13, 3) := by decide +kernel
theorem d_prog_10_method_26_16 : decode prog_10_method_26_code 16 = .ok (.iconst 0, 1) := by decide +kernel
theorem d_prog_10_method_26_17 : decode prog_10_method_26_code 17 = .ok (.ireturn, 1) := by decide +kernel
theorem d_prog_10_method_26_6 : decode prog_10_method_26_code 6 = .ok (.iload_n 0, 1) := by decide +kernel
theorem d_prog_10_method_26_7 : decode prog_10_method_26_code 7 = .ok (.bipush 122, 2) := by decide +kernel
theorem d_prog_10_method_26_9 : decode prog_10_method_26_code 9 = .ok (.if_icmp .gt 7, 3) := by decide +kernel
theorem d_prog_10_method_26_12 : decode prog_10_method_26_code 12 = .ok (.iconst 1, 1) := by decide +kernel
theorem d_prog_10_method_26_13 : decode prog_10_method_26_code 13 = .ok (.goto 4, 3) := by decide +kernel
theorem pn_1 : plainName "com/example/foldkey/foldkey/encoding/StructuredFields" = true := by first | (simp [plainName, overriddenIn]; done) | decide +kernel
theorem ef_low (mt : MethodId) (c : Int32) : entryFrame mt #[(.int c)] 1 = mkF mt 0 #[.val (.int c)] [] := by first | (simp [entryFrame, mkF, argsToLocals, Value.category]; done) | rfl
def Q_low (Z : State) (c : Int32) (h0 : Heap) (n0 : Nat) (v : Option Value) (h : Heap) (L : List Loc) : Prop := v = some (.int (own_low c)) ∧ Fr n0 L ∧ h = h0
set_option maxRecDepth 65536 in
set_option maxHeartbeats 40000000 in
theorem rm_low (l : Launch) (Z : State) (a0 : Array Value) (hw : ∀ d ∈ tables_1, d.before a0 Z = true) (ws : List Jvm.Cond) (c : Int32) (h0 : Heap) (n0 : Nat) (Z0 : n0 ≤ h0.size) :
    MetFree l (⟨"com/example/foldkey/foldkey/encoding/StructuredFields", "isLowercaseLetter", "(C)Z"⟩ : MethodName) (head1 (Jvm.Cond.code (⟨"com/example/foldkey/foldkey/encoding/StructuredFields", "isLowercaseLetter", "(C)Z"⟩ : MethodName) prog_10_method_26_code 1 (some .boolean) :: ws) ({ frames := 0, cells := 0, slots := 0, locals := 0 } : Room)) (fun aa UU => aa = #[(.int c)] ∧ Z.Warmed39 UU.vm ∧ UU.heap = h0) (fun _ _ _ _ _ => True) (fun _ UU oo UU' => ∃ vv LL, oo = .returned vv ∧ Q_low Z c h0 n0 vv UU'.heap LL ∧ FrameEnd UU oo UU' LL ({ frames := 0, cells := 0, slots := 0, locals := 0 } : Room).cells ({ frames := 0, cells := 0, slots := 0, locals := 0 } : Room).slots) := by
  refine MetFree.of_bodySF (plainFor_of_name pn_1) hisR ?_
  intro p e s mt args below meth cd s₁ Bd hml0 hP hK
  obtain ⟨hA, hZ, hh⟩ := hP
  have hx := Bd.exec
  have hby := Bd.bytes
  have hml : cd.maxLocals = 1 := hml0
  have hown : s.vm.findClass "com/example/foldkey/foldkey/encoding/StructuredFields" = some mt.cls := findClass_of_methodNamed Bd.named
  have hnm := (name_of_methodNamed Bd.named Bd.method).1
  have hlk : meth.locks = false := BodyLoose.notSynchronized Bd
  have hrt := Bd.returns
  have X0 : Stand p l e ({ frames := 0, cells := 0, slots := 0, locals := 0 } : Room) s mt args below meth cd s₁ [] 0 0 := Stand.of_body Bd
  have e0 : s₁.heap = h0 := by rw [← hh, Bd.state]; rfl
  have N0 := Fr.nil n0
  show Win p e below (Ends s (Q_low Z c h0 n0) ({ frames := 0, cells := 0, slots := 0, locals := 0 } : Room).cells ({ frames := 0, cells := 0, slots := 0, locals := 0 } : Room).slots) s₁ (entryFrame mt args 1)
  rw [hA, ef_low]
  refine Win.st ?_ (fun tq kq => XS.iloadN X0.here hx rfl (hb hby d_prog_10_method_26_0) rfl kq)
  show Win p e below _ s₁ (mkF mt 1 #[.val (.int c)] [(.int c)])
  refine Win.st ?_ (fun tq kq => XS.bipush X0.here hx rfl (hb hby d_prog_10_method_26_1) kq)
  show Win p e below _ s₁ (mkF mt 3 #[.val (.int c)] [(.int (97 : Int32)), (.int c)])
  by_cases hc3 : c < (97 : Int32)
  · refine Win.st ?_ (fun tq kq => XS.icmpYes X0.here hx rfl (pc0 := 3) (pc' := 16) rfl (hb hby d_prog_10_method_26_3) rfl (tlt hc3).1 (by decide) (by decide) kq)
    show Win p e below _ s₁ (mkF mt 16 #[.val (.int c)] [])
    refine Win.st ?_ (fun tq kq => XS.iconst X0.here hx rfl (hb hby d_prog_10_method_26_16) kq)
    show Win p e below _ s₁ (mkF mt 17 #[.val (.int c)] [(.int (0 : Int32))])
    exact Win.retN X0 hx hlk e0 (t := .boolean) (z' := (0 : Int32)) hrt (by simp) (hb hby d_prog_10_method_26_17) (by decide) (by decide) rfl ⟨by rw [own_low, if_pos hc3], N0, rfl⟩
  · refine Win.st ?_ (fun tq kq => XS.icmpNo X0.here hx rfl (hb hby d_prog_10_method_26_3) rfl (flt hc3).1 kq)
    show Win p e below _ s₁ (mkF mt 6 #[.val (.int c)] [])
    refine Win.st ?_ (fun tq kq => XS.iloadN X0.here hx rfl (hb hby d_prog_10_method_26_6) rfl kq)
    show Win p e below _ s₁ (mkF mt 7 #[.val (.int c)] [(.int c)])
    refine Win.st ?_ (fun tq kq => XS.bipush X0.here hx rfl (hb hby d_prog_10_method_26_7) kq)
    show Win p e below _ s₁ (mkF mt 9 #[.val (.int c)] [(.int (122 : Int32)), (.int c)])
    by_cases hc9 : (122 : Int32) < c
    · refine Win.st ?_ (fun tq kq => XS.icmpYes X0.here hx rfl (pc0 := 9) (pc' := 16) rfl (hb hby d_prog_10_method_26_9) rfl (tlt hc9).2.2.1 (by decide) (by decide) kq)
      show Win p e below _ s₁ (mkF mt 16 #[.val (.int c)] [])
      refine Win.st ?_ (fun tq kq => XS.iconst X0.here hx rfl (hb hby d_prog_10_method_26_16) kq)
      show Win p e below _ s₁ (mkF mt 17 #[.val (.int c)] [(.int (0 : Int32))])
      exact Win.retN X0 hx hlk e0 (t := .boolean) (z' := (0 : Int32)) hrt (by simp) (hb hby d_prog_10_method_26_17) (by decide) (by decide) rfl ⟨by rw [own_low, if_neg hc3, if_pos hc9], N0, rfl⟩
    · refine Win.st ?_ (fun tq kq => XS.icmpNo X0.here hx rfl (hb hby d_prog_10_method_26_9) rfl (flt hc9).2.2.1 kq)
      show Win p e below _ s₁ (mkF mt 12 #[.val (.int c)] [])
      refine Win.st ?_ (fun tq kq => XS.iconst X0.here hx rfl (hb hby d_prog_10_method_26_12) kq)
      show Win p e below _ s₁ (mkF mt 13 #[.val (.int c)] [(.int (1 : Int32))])
      refine Win.st ?_ (fun tq kq => XS.goto X0.here hx rfl (pc0 := 13) (pc' := 17) rfl (hb hby d_prog_10_method_26_13) (by decide) (by decide) kq)
      show Win p e below _ s₁ (mkF mt 17 #[.val (.int c)] [(.int (1 : Int32))])
      exact Win.retN X0 hx hlk e0 (t := .boolean) (z' := (1 : Int32)) hrt (by simp) (hb hby d_prog_10_method_26_17) (by decide) (by decide) rfl ⟨by rw [own_low, if_neg hc3, if_neg hc9], N0, rfl⟩
theorem d_prog_10_method_28_0 : decode prog_10_method_28_code 0 = .ok (.iload_n 0, 1) := by decide +kernel
theorem d_prog_10_method_28_1 : decode prog_10_method_28_code 1 = .ok (.bipush 48, 2) := by decide +kernel
theorem d_prog_10_method_28_3 : decode prog_10_method_28_code 3 = .ok (.if_icmp .lt 13, 3) := by decide +kernel
theorem d_prog_10_method_28_16 : decode prog_10_method_28_code 16 = .ok (.iconst 0, 1) := by decide +kernel
theorem d_prog_10_method_28_17 : decode prog_10_method_28_code 17 = .ok (.ireturn, 1) := by decide +kernel
theorem d_prog_10_method_28_6 : decode prog_10_method_28_code 6 = .ok (.iload_n 0, 1) := by decide +kernel
theorem d_prog_10_method_28_7 : decode prog_10_method_28_code 7 = .ok (.bipush 57, 2) := by decide +kernel
theorem d_prog_10_method_28_9 : decode prog_10_method_28_code 9 = .ok (.if_icmp .gt 7, 3) := by decide +kernel
theorem d_prog_10_method_28_12 : decode prog_10_method_28_code 12 = .ok (.iconst 1, 1) := by decide +kernel
theorem d_prog_10_method_28_13 : decode prog_10_method_28_code 13 = .ok (.goto 4, 3) := by decide +kernel
theorem ef_dig (mt : MethodId) (c : Int32) : entryFrame mt #[(.int c)] 1 = mkF mt 0 #[.val (.int c)] [] := by first | (simp [entryFrame, mkF, argsToLocals, Value.category]; done) | rfl
def Q_dig (Z : State) (c : Int32) (h0 : Heap) (n0 : Nat) (v : Option Value) (h : Heap) (L : List Loc) : Prop := v = some (.int (own_dig c)) ∧ Fr n0 L ∧ h = h0
set_option maxRecDepth 65536 in
set_option maxHeartbeats 40000000 in
theorem rm_dig (l : Launch) (Z : State) (a0 : Array Value) (hw : ∀ d ∈ tables_1, d.before a0 Z = true) (ws : List Jvm.Cond) (c : Int32) (h0 : Heap) (n0 : Nat) (Z0 : n0 ≤ h0.size) :
    MetFree l (⟨"com/example/foldkey/foldkey/encoding/StructuredFields", "isDigit", "(C)Z"⟩ : MethodName) (head1 (Jvm.Cond.code (⟨"com/example/foldkey/foldkey/encoding/StructuredFields", "isDigit", "(C)Z"⟩ : MethodName) prog_10_method_28_code 1 (some .boolean) :: ws) ({ frames := 0, cells := 0, slots := 0, locals := 0 } : Room)) (fun aa UU => aa = #[(.int c)] ∧ Z.Warmed39 UU.vm ∧ UU.heap = h0) (fun _ _ _ _ _ => True) (fun _ UU oo UU' => ∃ vv LL, oo = .returned vv ∧ Q_dig Z c h0 n0 vv UU'.heap LL ∧ FrameEnd UU oo UU' LL ({ frames := 0, cells := 0, slots := 0, locals := 0 } : Room).cells ({ frames := 0, cells := 0, slots := 0, locals := 0 } : Room).slots) := by
  refine MetFree.of_bodySF (plainFor_of_name pn_1) hisR ?_
  intro p e s mt args below meth cd s₁ Bd hml0 hP hK
  obtain ⟨hA, hZ, hh⟩ := hP
  have hx := Bd.exec
  have hby := Bd.bytes
  have hml : cd.maxLocals = 1 := hml0
  have hown : s.vm.findClass "com/example/foldkey/foldkey/encoding/StructuredFields" = some mt.cls := findClass_of_methodNamed Bd.named
  have hnm := (name_of_methodNamed Bd.named Bd.method).1
  have hlk : meth.locks = false := BodyLoose.notSynchronized Bd
  have hrt := Bd.returns
  have X0 : Stand p l e ({ frames := 0, cells := 0, slots := 0, locals := 0 } : Room) s mt args below meth cd s₁ [] 0 0 := Stand.of_body Bd
  have e0 : s₁.heap = h0 := by rw [← hh, Bd.state]; rfl
  have N0 := Fr.nil n0
  show Win p e below (Ends s (Q_dig Z c h0 n0) ({ frames := 0, cells := 0, slots := 0, locals := 0 } : Room).cells ({ frames := 0, cells := 0, slots := 0, locals := 0 } : Room).slots) s₁ (entryFrame mt args 1)
  rw [hA, ef_dig]
  refine Win.st ?_ (fun tq kq => XS.iloadN X0.here hx rfl (hb hby d_prog_10_method_28_0) rfl kq)
  show Win p e below _ s₁ (mkF mt 1 #[.val (.int c)] [(.int c)])
  refine Win.st ?_ (fun tq kq => XS.bipush X0.here hx rfl (hb hby d_prog_10_method_28_1) kq)
  show Win p e below _ s₁ (mkF mt 3 #[.val (.int c)] [(.int (48 : Int32)), (.int c)])
  by_cases hc3 : c < (48 : Int32)
  · refine Win.st ?_ (fun tq kq => XS.icmpYes X0.here hx rfl (pc0 := 3) (pc' := 16) rfl (hb hby d_prog_10_method_28_3) rfl (tlt hc3).1 (by decide) (by decide) kq)
    show Win p e below _ s₁ (mkF mt 16 #[.val (.int c)] [])
    refine Win.st ?_ (fun tq kq => XS.iconst X0.here hx rfl (hb hby d_prog_10_method_28_16) kq)
    show Win p e below _ s₁ (mkF mt 17 #[.val (.int c)] [(.int (0 : Int32))])
    exact Win.retN X0 hx hlk e0 (t := .boolean) (z' := (0 : Int32)) hrt (by simp) (hb hby d_prog_10_method_28_17) (by decide) (by decide) rfl ⟨by rw [own_dig, if_pos hc3], N0, rfl⟩
  · refine Win.st ?_ (fun tq kq => XS.icmpNo X0.here hx rfl (hb hby d_prog_10_method_28_3) rfl (flt hc3).1 kq)
    show Win p e below _ s₁ (mkF mt 6 #[.val (.int c)] [])
    refine Win.st ?_ (fun tq kq => XS.iloadN X0.here hx rfl (hb hby d_prog_10_method_28_6) rfl kq)
    show Win p e below _ s₁ (mkF mt 7 #[.val (.int c)] [(.int c)])
    refine Win.st ?_ (fun tq kq => XS.bipush X0.here hx rfl (hb hby d_prog_10_method_28_7) kq)
    show Win p e below _ s₁ (mkF mt 9 #[.val (.int c)] [(.int (57 : Int32)), (.int c)])
    by_cases hc9 : (57 : Int32) < c
    · refine Win.st ?_ (fun tq kq => XS.icmpYes X0.here hx rfl (pc0 := 9) (pc' := 16) rfl (hb hby d_prog_10_method_28_9) rfl (tlt hc9).2.2.1 (by decide) (by decide) kq)
      show Win p e below _ s₁ (mkF mt 16 #[.val (.int c)] [])
      refine Win.st ?_ (fun tq kq => XS.iconst X0.here hx rfl (hb hby d_prog_10_method_28_16) kq)
      show Win p e below _ s₁ (mkF mt 17 #[.val (.int c)] [(.int (0 : Int32))])
      exact Win.retN X0 hx hlk e0 (t := .boolean) (z' := (0 : Int32)) hrt (by simp) (hb hby d_prog_10_method_28_17) (by decide) (by decide) rfl ⟨by rw [own_dig, if_neg hc3, if_pos hc9], N0, rfl⟩
    · refine Win.st ?_ (fun tq kq => XS.icmpNo X0.here hx rfl (hb hby d_prog_10_method_28_9) rfl (flt hc9).2.2.1 kq)
      show Win p e below _ s₁ (mkF mt 12 #[.val (.int c)] [])
      refine Win.st ?_ (fun tq kq => XS.iconst X0.here hx rfl (hb hby d_prog_10_method_28_12) kq)
      show Win p e below _ s₁ (mkF mt 13 #[.val (.int c)] [(.int (1 : Int32))])
      refine Win.st ?_ (fun tq kq => XS.goto X0.here hx rfl (pc0 := 13) (pc' := 17) rfl (hb hby d_prog_10_method_28_13) (by decide) (by decide) kq)
      show Win p e below _ s₁ (mkF mt 17 #[.val (.int c)] [(.int (1 : Int32))])
      exact Win.retN X0 hx hlk e0 (t := .boolean) (z' := (1 : Int32)) hrt (by simp) (hb hby d_prog_10_method_28_17) (by decide) (by decide) rfl ⟨by rw [own_dig, if_neg hc3, if_neg hc9], N0, rfl⟩
theorem d_prog_10_method_27_0 : decode prog_10_method_27_code 0 = .ok (.iload_n 0, 1) := by decide +kernel
theorem d_prog_10_method_27_1 : decode prog_10_method_27_code 1 = .ok (.invokestatic 164, 3) := by decide +kernel
theorem pd_1 : parseMethodDescriptor "(C)Z" = some ⟨[.char], some .boolean⟩ := by decide +kernel
theorem d_prog_10_method_27_4 : decode prog_10_method_27_code 4 = .ok (.ifCond .ne 15, 3) := by decide +kernel
theorem d_prog_10_method_27_7 : decode prog_10_method_27_code 7 = .ok (.iload_n 0, 1) := by decide +kernel
theorem d_prog_10_method_27_8 : decode prog_10_method_27_code 8 = .ok (.bipush 65, 2) := by decide +kernel
theorem d_prog_10_method_27_10 : decode prog_10_method_27_code 10 = .ok (.if_icmp .lt 13, 3) := by decide +kernel
theorem d_prog_10_method_27_23 : decode prog_10_method_27_code 23 = .ok (.iconst 0, 1) := by decide +kernel
theorem d_prog_10_method_27_24 : decode prog_10_method_27_code 24 = .ok (.ireturn, 1) := by decide +kernel
theorem d_prog_10_method_27_13 : decode prog_10_method_27_code 13 = .ok (.iload_n 0, 1) := by decide +kernel
theorem d_prog_10_method_27_14 : decode prog_10_method_27_code 14 = .ok (.bipush 90, 2) := by decide +kernel
theorem d_prog_10_method_27_16 : decode prog_10_method_27_code 16 = .ok (.if_icmp .gt 7, 3) := by decide +kernel
theorem d_prog_10_method_27_19 : decode prog_10_method_27_code 19 = .ok (.iconst 1, 1) := by decide +kernel
theorem d_prog_10_method_27_20 : decode prog_10_method_27_code 20 = .ok (.goto 4, 3) := by decide +kernel
theorem ef_let (mt : MethodId) (c : Int32) : entryFrame mt #[(.int c)] 1 = mkF mt 0 #[.val (.int c)] [] := by first | (simp [entryFrame, mkF, argsToLocals, Value.category]; done) | rfl
def Q_let (Z : State) (c : Int32) (h0 : Heap) (n0 : Nat) (v : Option Value) (h : Heap) (L : List Loc) : Prop := v = some (.int (own_let c)) ∧ Fr n0 L ∧ h = h0
set_option maxRecDepth 65536 in
set_option maxHeartbeats 40000000 in
theorem rm_let (l : Launch) (Z : State) (a0 : Array Value) (hw : ∀ d ∈ tables_1, d.before a0 Z = true) (ws : List Jvm.Cond) (c : Int32) (h0 : Heap) (n0 : Nat) (Z0 : n0 ≤ h0.size) :
    MetFree l (⟨"com/example/foldkey/foldkey/encoding/StructuredFields", "isLetter", "(C)Z"⟩ : MethodName) (head1 (Jvm.Cond.code (⟨"com/example/foldkey/foldkey/encoding/StructuredFields", "isLetter", "(C)Z"⟩ : MethodName) prog_10_method_27_code 1 (some .boolean) :: ws) ({ frames := 1, cells := 0, slots := 0, locals := 12 } : Room)) (fun aa UU => aa = #[(.int c)] ∧ Z.Warmed39 UU.vm ∧ UU.heap = h0) (fun _ _ _ _ _ => True) (fun _ UU oo UU' => ∃ vv LL, oo = .returned vv ∧ Q_let Z c h0 n0 vv UU'.heap LL ∧ FrameEnd UU oo UU' LL ({ frames := 1, cells := 0, slots := 0, locals := 12 } : Room).cells ({ frames := 1, cells := 0, slots := 0, locals := 12 } : Room).slots) := by
  refine MetFree.of_bodySF (plainFor_of_name pn_1) hisR ?_
  intro p e s mt args below meth cd s₁ Bd hml0 hP hK
  obtain ⟨hA, hZ, hh⟩ := hP
  have hx := Bd.exec
  have hby := Bd.bytes
  have hml : cd.maxLocals = 1 := hml0
  have hown : s.vm.findClass "com/example/foldkey/foldkey/encoding/StructuredFields" = some mt.cls := findClass_of_methodNamed Bd.named
  have hnm := (name_of_methodNamed Bd.named Bd.method).1
  have hlk : meth.locks = false := BodyLoose.notSynchronized Bd
  have hrt := Bd.returns
  have X0 : Stand p l e ({ frames := 1, cells := 0, slots := 0, locals := 12 } : Room) s mt args below meth cd s₁ [] 0 0 := Stand.of_body Bd
  have e0 : s₁.heap = h0 := by rw [← hh, Bd.state]; rfl
  have N0 := Fr.nil n0
  show Win p e below (Ends s (Q_let Z c h0 n0) ({ frames := 1, cells := 0, slots := 0, locals := 12 } : Room).cells ({ frames := 1, cells := 0, slots := 0, locals := 12 } : Room).slots) s₁ (entryFrame mt args 1)
  rw [hA, ef_let]
  refine Win.st ?_ (fun tq kq => XS.iloadN X0.here hx rfl (hb hby d_prog_10_method_27_0) rfl kq)
  show Win p e below _ s₁ (mkF mt 1 #[.val (.int c)] [(.int c)])
  obtain ⟨v17, _, ⟨T17, L17, k17, n17⟩, -, X17, ⟨Lc17, hQ17, l17, y17, z17⟩, st17⟩ := Jvm.LawKit.callS X0 hx (y := (⟨"com/example/foldkey/foldkey/encoding/StructuredFields", "isLowercaseLetter", "(C)Z"⟩ : MethodName)) hown (mvT hZ (hw _ (List.mem_of_getElem? (i := 8) rfl))) (mvT hZ (hw _ (List.mem_of_getElem? (i := 9) rfl))) (mvT hZ (hw _ (List.mem_of_getElem? (i := 3) rfl))) (mvT hZ (hw _ (List.mem_of_getElem? (i := 10) rfl))) (by decide) (backOf (W := 0) (rm_low l Z a0 hw [] c h0 n0 Z0 ) hZ (hw _ (List.mem_of_getElem? (i := 10) rfl)) (hw _ (List.mem_of_getElem? (i := 3) rfl)) (by decide) (by decide)) (g := (mkF mt 1 #[.val (.int c)] [(.int c)])) rfl (by rw [hml]; rfl) (argsL := [(.int c)]) (rest := []) (lenOf pd_1 rfl) rfl (by show 2 * 0 + _ ≤ _; exact Nat.le_of_eq rfl) (hb hby d_prog_10_method_27_1) (fun _ _ => ⟨rfl, e0, (by decide : 0 + 0 ≤ _), (by decide : 0 + 0 ≤ _)⟩)
  dsimp only [Pt.U, Pt.locs, Pt.cells, Pt.slots] at X17 l17 y17 z17 st17 hQ17
  subst y17 z17
  replace X17 : Stand p l e _ s mt args below meth cd T17 L17 0 0 := X17
  obtain ⟨h17, e17⟩ : ∃ z, T17.heap = z := ⟨_, rfl⟩
  rw [e17] at hQ17
  obtain ⟨rfl, Nq17, eh17⟩ := hQ17
  have N17 : Fr n0 L17 := by rw [l17]; exact Fr.app N0 Nq17
  rw [eh17] at e17
  refine Win.st ?_ st17
  show Win p e below _ T17 (mkF mt 4 #[.val (.int c)] [(.int (own_low c))])
  by_cases hc4 : (own_low c) = (0 : Int32)
  · refine Win.st ?_ (fun tq kq => XS.ifNo X17.here hx rfl (hb hby d_prog_10_method_27_4) rfl ((if0 _ _).trans (teq hc4).2) kq)
    show Win p e below _ T17 (mkF mt 7 #[.val (.int c)] [])
    refine Win.st ?_ (fun tq kq => XS.iloadN X17.here hx rfl (hb hby d_prog_10_method_27_7) rfl kq)
    show Win p e below _ T17 (mkF mt 8 #[.val (.int c)] [(.int c)])
    refine Win.st ?_ (fun tq kq => XS.bipush X17.here hx rfl (hb hby d_prog_10_method_27_8) kq)
    show Win p e below _ T17 (mkF mt 10 #[.val (.int c)] [(.int (65 : Int32)), (.int c)])
    by_cases hc10 : c < (65 : Int32)
    · refine Win.st ?_ (fun tq kq => XS.icmpYes X17.here hx rfl (pc0 := 10) (pc' := 23) rfl (hb hby d_prog_10_method_27_10) rfl (tlt hc10).1 (by decide) (by decide) kq)
      show Win p e below _ T17 (mkF mt 23 #[.val (.int c)] [])
      refine Win.st ?_ (fun tq kq => XS.iconst X17.here hx rfl (hb hby d_prog_10_method_27_23) kq)
      show Win p e below _ T17 (mkF mt 24 #[.val (.int c)] [(.int (0 : Int32))])
      exact Win.retN X17 hx hlk e17 (t := .boolean) (z' := (0 : Int32)) hrt (by simp) (hb hby d_prog_10_method_27_24) (by decide) (by decide) rfl ⟨by rw [own_let, if_pos hc4, if_pos hc10], N17, rfl⟩
    · refine Win.st ?_ (fun tq kq => XS.icmpNo X17.here hx rfl (hb hby d_prog_10_method_27_10) rfl (flt hc10).1 kq)
      show Win p e below _ T17 (mkF mt 13 #[.val (.int c)] [])
      refine Win.st ?_ (fun tq kq => XS.iloadN X17.here hx rfl (hb hby d_prog_10_method_27_13) rfl kq)
      show Win p e below _ T17 (mkF mt 14 #[.val (.int c)] [(.int c)])
      refine Win.st ?_ (fun tq kq => XS.bipush X17.here hx rfl (hb hby d_prog_10_method_27_14) kq)
      show Win p e below _ T17 (mkF mt 16 #[.val (.int c)] [(.int (90 : Int32)), (.int c)])
      by_cases hc16 : (90 : Int32) < c
      · refine Win.st ?_ (fun tq kq => XS.icmpYes X17.here hx rfl (pc0 := 16) (pc' := 23) rfl (hb hby d_prog_10_method_27_16) rfl (tlt hc16).2.2.1 (by decide) (by decide) kq)
        show Win p e below _ T17 (mkF mt 23 #[.val (.int c)] [])
        refine Win.st ?_ (fun tq kq => XS.iconst X17.here hx rfl (hb hby d_prog_10_method_27_23) kq)
        show Win p e below _ T17 (mkF mt 24 #[.val (.int c)] [(.int (0 : Int32))])
        exact Win.retN X17 hx hlk e17 (t := .boolean) (z' := (0 : Int32)) hrt (by simp) (hb hby d_prog_10_method_27_24) (by decide) (by decide) rfl ⟨by rw [own_let, if_pos hc4, if_neg hc10, if_pos hc16], N17, rfl⟩
      · refine Win.st ?_ (fun tq kq => XS.icmpNo X17.here hx rfl (hb hby d_prog_10_method_27_16) rfl (flt hc16).2.2.1 kq)
        show Win p e below _ T17 (mkF mt 19 #[.val (.int c)] [])
        refine Win.st ?_ (fun tq kq => XS.iconst X17.here hx rfl (hb hby d_prog_10_method_27_19) kq)
        show Win p e below _ T17 (mkF mt 20 #[.val (.int c)] [(.int (1 : Int32))])
        refine Win.st ?_ (fun tq kq => XS.goto X17.here hx rfl (pc0 := 20) (pc' := 24) rfl (hb hby d_prog_10_method_27_20) (by decide) (by decide) kq)
        show Win p e below _ T17 (mkF mt 24 #[.val (.int c)] [(.int (1 : Int32))])
        exact Win.retN X17 hx hlk e17 (t := .boolean) (z' := (1 : Int32)) hrt (by simp) (hb hby d_prog_10_method_27_24) (by decide) (by decide) rfl ⟨by rw [own_let, if_pos hc4, if_neg hc10, if_neg hc16], N17, rfl⟩
  · refine Win.st ?_ (fun tq kq => XS.ifYes X17.here hx rfl (pc0 := 4) (pc' := 19) rfl (hb hby d_prog_10_method_27_4) rfl ((if0 _ _).trans (feq hc4).2) (by decide) (by decide) kq)
    show Win p e below _ T17 (mkF mt 19 #[.val (.int c)] [])
    refine Win.st ?_ (fun tq kq => XS.iconst X17.here hx rfl (hb hby d_prog_10_method_27_19) kq)
    show Win p e below _ T17 (mkF mt 20 #[.val (.int c)] [(.int (1 : Int32))])
    refine Win.st ?_ (fun tq kq => XS.goto X17.here hx rfl (pc0 := 20) (pc' := 24) rfl (hb hby d_prog_10_method_27_20) (by decide) (by decide) kq)
    show Win p e below _ T17 (mkF mt 24 #[.val (.int c)] [(.int (1 : Int32))])
    exact Win.retN X17 hx hlk e17 (t := .boolean) (z' := (1 : Int32)) hrt (by simp) (hb hby d_prog_10_method_27_24) (by decide) (by decide) rfl ⟨by rw [own_let, if_neg hc4], N17, rfl⟩
theorem d_method_2_0 : decode method_2_code 0 = .ok (.iload_n 0, 1) := by decide +kernel
theorem d_method_2_1 : decode method_2_code 1 = .ok (.bipush 34, 2) := by decide +kernel
theorem d_method_2_3 : decode method_2_code 3 = .ok (.if_icmp .eq 99, 3) := by decide +kernel
theorem d_method_2_102 : decode method_2_code 102 = .ok (.iconst 1, 1) := by decide +kernel
theorem d_method_2_103 : decode method_2_code 103 = .ok (.goto 4, 3) := by decide +kernel
theorem d_method_2_107 : decode method_2_code 107 = .ok (.ireturn, 1) := by decide +kernel
theorem d_method_2_6 : decode method_2_code 6 = .ok (.iload_n 0, 1) := by decide +kernel
theorem d_method_2_7 : decode method_2_code 7 = .ok (.bipush 40, 2) := by decide +kernel
theorem d_method_2_9 : decode method_2_code 9 = .ok (.if_icmp .eq 93, 3) := by decide +kernel
theorem d_method_2_12 : decode method_2_code 12 = .ok (.iload_n 0, 1) := by decide +kernel
theorem d_method_2_13 : decode method_2_code 13 = .ok (.bipush 41, 2) := by decide +kernel
theorem d_method_2_15 : decode method_2_code 15 = .ok (.if_icmp .eq 87, 3) := by decide +kernel
theorem d_method_2_18 : decode method_2_code 18 = .ok (.iload_n 0, 1) := by decide +kernel
theorem d_method_2_19 : decode method_2_code 19 = .ok (.bipush 44, 2) := by decide +kernel
theorem d_method_2_21 : decode method_2_code 21 = .ok (.if_icmp .eq 81, 3) := by decide +kernel
theorem d_method_2_24 : decode method_2_code 24 = .ok (.iload_n 0, 1) := by decide +kernel
theorem d_method_2_25 : decode method_2_code 25 = .ok (.bipush 47, 2) := by decide +kernel
theorem d_method_2_27 : decode method_2_code 27 = .ok (.if_icmp .eq 75, 3) := by decide +kernel
theorem d_method_2_30 : decode method_2_code 30 = .ok (.iload_n 0, 1) := by decide +kernel
theorem d_method_2_31 : decode method_2_code 31 = .ok (.bipush 58, 2) := by decide +kernel
theorem d_method_2_33 : decode method_2_code 33 = .ok (.if_icmp .eq 69, 3) := by decide +kernel
theorem d_method_2_36 : decode method_2_code 36 = .ok (.iload_n 0, 1) := by decide +kernel
theorem d_method_2_37 : decode method_2_code 37 = .ok (.bipush 59, 2) := by decide +kernel
theorem d_method_2_39 : decode method_2_code 39 = .ok (.if_icmp .eq 63, 3) := by decide +kernel
theorem d_method_2_42 : decode method_2_code 42 = .ok (.iload_n 0, 1) := by decide +kernel
theorem d_method_2_43 : decode method_2_code 43 = .ok (.bipush 60, 2) := by decide +kernel
theorem d_method_2_45 : decode method_2_code 45 = .ok (.if_icmp .eq 57, 3) := by decide +kernel
theorem d_method_2_48 : decode method_2_code 48 = .ok (.iload_n 0, 1) := by decide +kernel
theorem d_method_2_49 : decode method_2_code 49 = .ok (.bipush 61, 2) := by decide +kernel
theorem d_method_2_51 : decode method_2_code 51 = .ok (.if_icmp .eq 51, 3) := by decide +kernel
theorem d_method_2_54 : decode method_2_code 54 = .ok (.iload_n 0, 1) := by decide +kernel
theorem d_method_2_55 : decode method_2_code 55 = .ok (.bipush 62, 2) := by decide +kernel
theorem d_method_2_57 : decode method_2_code 57 = .ok (.if_icmp .eq 45, 3) := by decide +kernel
theorem d_method_2_60 : decode method_2_code 60 = .ok (.iload_n 0, 1) := by decide +kernel
theorem d_method_2_61 : decode method_2_code 61 = .ok (.bipush 63, 2) := by decide +kernel
theorem d_method_2_63 : decode method_2_code 63 = .ok (.if_icmp .eq 39, 3) := by decide +kernel
theorem d_method_2_66 : decode method_2_code 66 = .ok (.iload_n 0, 1) := by decide +kernel
theorem d_method_2_67 : decode method_2_code 67 = .ok (.bipush 64, 2) := by decide +kernel
theorem d_method_2_69 : decode method_2_code 69 = .ok (.if_icmp .eq 33, 3) := by decide +kernel
theorem d_method_2_72 : decode method_2_code 72 = .ok (.iload_n 0, 1) := by decide +kernel
theorem d_method_2_73 : decode method_2_code 73 = .ok (.bipush 91, 2) := by decide +kernel
theorem d_method_2_75 : decode method_2_code 75 = .ok (.if_icmp .eq 27, 3) := by decide +kernel
theorem d_method_2_78 : decode method_2_code 78 = .ok (.iload_n 0, 1) := by decide +kernel
theorem d_method_2_79 : decode method_2_code 79 = .ok (.bipush 92, 2) := by decide +kernel
theorem d_method_2_81 : decode method_2_code 81 = .ok (.if_icmp .eq 21, 3) := by decide +kernel
theorem d_method_2_84 : decode method_2_code 84 = .ok (.iload_n 0, 1) := by decide +kernel
theorem d_method_2_85 : decode method_2_code 85 = .ok (.bipush 93, 2) := by decide +kernel
theorem d_method_2_87 : decode method_2_code 87 = .ok (.if_icmp .eq 15, 3) := by decide +kernel
theorem d_method_2_90 : decode method_2_code 90 = .ok (.iload_n 0, 1) := by decide +kernel
theorem d_method_2_91 : decode method_2_code 91 = .ok (.bipush 123, 2) := by decide +kernel
theorem d_method_2_93 : decode method_2_code 93 = .ok (.if_icmp .eq 9, 3) := by decide +kernel
theorem d_method_2_96 : decode method_2_code 96 = .ok (.iload_n 0, 1) := by decide +kernel
theorem d_method_2_97 : decode method_2_code 97 = .ok (.bipush 125, 2) := by decide +kernel
theorem d_method_2_99 : decode method_2_code 99 = .ok (.if_icmp .ne 7, 3) := by decide +kernel
theorem d_method_2_106 : decode method_2_code 106 = .ok (.iconst 0, 1) := by decide +kernel
theorem pn_2 : plainName "com/example/foldkey/foldkey/encoding/StructuredFieldsIsTokenCharacterPinLaw" = true := by first | (simp [plainName, overriddenIn]; done) | decide +kernel
theorem ef_del (mt : MethodId) (c : Int32) : entryFrame mt #[(.int c)] 1 = mkF mt 0 #[.val (.int c)] [] := by first | (simp [entryFrame, mkF, argsToLocals, Value.category]; done) | rfl
def Q_del (Z : State) (c : Int32) (h0 : Heap) (n0 : Nat) (v : Option Value) (h : Heap) (L : List Loc) : Prop := v = some (.int (own_del c)) ∧ Fr n0 L ∧ h = h0
set_option maxRecDepth 65536 in
set_option maxHeartbeats 40000000 in
theorem rm_del (l : Launch) (Z : State) (a0 : Array Value) (hw : ∀ d ∈ tables_1, d.before a0 Z = true) (ws : List Jvm.Cond) (c : Int32) (h0 : Heap) (n0 : Nat) (Z0 : n0 ≤ h0.size) :
    MetFree l (⟨"com/example/foldkey/foldkey/encoding/StructuredFieldsIsTokenCharacterPinLaw", "isDelimiter", "(C)Z"⟩ : MethodName) (head1 (Jvm.Cond.code (⟨"com/example/foldkey/foldkey/encoding/StructuredFieldsIsTokenCharacterPinLaw", "isDelimiter", "(C)Z"⟩ : MethodName) method_2_code 1 (some .boolean) :: ws) ({ frames := 0, cells := 0, slots := 0, locals := 0 } : Room)) (fun aa UU => aa = #[(.int c)] ∧ Z.Warmed39 UU.vm ∧ UU.heap = h0) (fun _ _ _ _ _ => True) (fun _ UU oo UU' => ∃ vv LL, oo = .returned vv ∧ Q_del Z c h0 n0 vv UU'.heap LL ∧ FrameEnd UU oo UU' LL ({ frames := 0, cells := 0, slots := 0, locals := 0 } : Room).cells ({ frames := 0, cells := 0, slots := 0, locals := 0 } : Room).slots) := by
  refine MetFree.of_bodySF (plainFor_of_name pn_2) hisR ?_
  intro p e s mt args below meth cd s₁ Bd hml0 hP hK
  obtain ⟨hA, hZ, hh⟩ := hP
  have hx := Bd.exec
  have hby := Bd.bytes
  have hml : cd.maxLocals = 1 := hml0
  have hown : s.vm.findClass "com/example/foldkey/foldkey/encoding/StructuredFieldsIsTokenCharacterPinLaw" = some mt.cls := findClass_of_methodNamed Bd.named
  have hnm := (name_of_methodNamed Bd.named Bd.method).1
  have hlk : meth.locks = false := BodyLoose.notSynchronized Bd
  have hrt := Bd.returns
  have X0 : Stand p l e ({ frames := 0, cells := 0, slots := 0, locals := 0 } : Room) s mt args below meth cd s₁ [] 0 0 := Stand.of_body Bd
  have e0 : s₁.heap = h0 := by rw [← hh, Bd.state]; rfl
  have N0 := Fr.nil n0
  show Win p e below (Ends s (Q_del Z c h0 n0) ({ frames := 0, cells := 0, slots := 0, locals := 0 } : Room).cells ({ frames := 0, cells := 0, slots := 0, locals := 0 } : Room).slots) s₁ (entryFrame mt args 1)
  rw [hA, ef_del]
  refine Win.st ?_ (fun tq kq => XS.iloadN X0.here hx rfl (hb hby d_method_2_0) rfl kq)
  show Win p e below _ s₁ (mkF mt 1 #[.val (.int c)] [(.int c)])
  refine Win.st ?_ (fun tq kq => XS.bipush X0.here hx rfl (hb hby d_method_2_1) kq)
  show Win p e below _ s₁ (mkF mt 3 #[.val (.int c)] [(.int (34 : Int32)), (.int c)])
  by_cases hc3 : c = (34 : Int32)
  · refine Win.st ?_ (fun tq kq => XS.icmpYes X0.here hx rfl (pc0 := 3) (pc' := 102) rfl (hb hby d_method_2_3) rfl (teq hc3).1 (by decide) (by decide) kq)
    show Win p e below _ s₁ (mkF mt 102 #[.val (.int c)] [])
    refine Win.st ?_ (fun tq kq => XS.iconst X0.here hx rfl (hb hby d_method_2_102) kq)
    show Win p e below _ s₁ (mkF mt 103 #[.val (.int c)] [(.int (1 : Int32))])
    refine Win.st ?_ (fun tq kq => XS.goto X0.here hx rfl (pc0 := 103) (pc' := 107) rfl (hb hby d_method_2_103) (by decide) (by decide) kq)
    show Win p e below _ s₁ (mkF mt 107 #[.val (.int c)] [(.int (1 : Int32))])
    exact Win.retN X0 hx hlk e0 (t := .boolean) (z' := (1 : Int32)) hrt (by simp) (hb hby d_method_2_107) (by decide) (by decide) rfl ⟨by rw [own_del, if_pos hc3], N0, rfl⟩
  · refine Win.st ?_ (fun tq kq => XS.icmpNo X0.here hx rfl (hb hby d_method_2_3) rfl (feq hc3).1 kq)
    show Win p e below _ s₁ (mkF mt 6 #[.val (.int c)] [])
    refine Win.st ?_ (fun tq kq => XS.iloadN X0.here hx rfl (hb hby d_method_2_6) rfl kq)
    show Win p e below _ s₁ (mkF mt 7 #[.val (.int c)] [(.int c)])
    refine Win.st ?_ (fun tq kq => XS.bipush X0.here hx rfl (hb hby d_method_2_7) kq)
    show Win p e below _ s₁ (mkF mt 9 #[.val (.int c)] [(.int (40 : Int32)), (.int c)])
    by_cases hc9 : c = (40 : Int32)
    · refine Win.st ?_ (fun tq kq => XS.icmpYes X0.here hx rfl (pc0 := 9) (pc' := 102) rfl (hb hby d_method_2_9) rfl (teq hc9).1 (by decide) (by decide) kq)
      show Win p e below _ s₁ (mkF mt 102 #[.val (.int c)] [])
      refine Win.st ?_ (fun tq kq => XS.iconst X0.here hx rfl (hb hby d_method_2_102) kq)
      show Win p e below _ s₁ (mkF mt 103 #[.val (.int c)] [(.int (1 : Int32))])
      refine Win.st ?_ (fun tq kq => XS.goto X0.here hx rfl (pc0 := 103) (pc' := 107) rfl (hb hby d_method_2_103) (by decide) (by decide) kq)
      show Win p e below _ s₁ (mkF mt 107 #[.val (.int c)] [(.int (1 : Int32))])
      exact Win.retN X0 hx hlk e0 (t := .boolean) (z' := (1 : Int32)) hrt (by simp) (hb hby d_method_2_107) (by decide) (by decide) rfl ⟨by rw [own_del, if_neg hc3, if_pos hc9], N0, rfl⟩
    · refine Win.st ?_ (fun tq kq => XS.icmpNo X0.here hx rfl (hb hby d_method_2_9) rfl (feq hc9).1 kq)
      show Win p e below _ s₁ (mkF mt 12 #[.val (.int c)] [])
      refine Win.st ?_ (fun tq kq => XS.iloadN X0.here hx rfl (hb hby d_method_2_12) rfl kq)
      show Win p e below _ s₁ (mkF mt 13 #[.val (.int c)] [(.int c)])
      refine Win.st ?_ (fun tq kq => XS.bipush X0.here hx rfl (hb hby d_method_2_13) kq)
      show Win p e below _ s₁ (mkF mt 15 #[.val (.int c)] [(.int (41 : Int32)), (.int c)])
      by_cases hc15 : c = (41 : Int32)
      · refine Win.st ?_ (fun tq kq => XS.icmpYes X0.here hx rfl (pc0 := 15) (pc' := 102) rfl (hb hby d_method_2_15) rfl (teq hc15).1 (by decide) (by decide) kq)
        show Win p e below _ s₁ (mkF mt 102 #[.val (.int c)] [])
        refine Win.st ?_ (fun tq kq => XS.iconst X0.here hx rfl (hb hby d_method_2_102) kq)
        show Win p e below _ s₁ (mkF mt 103 #[.val (.int c)] [(.int (1 : Int32))])
        refine Win.st ?_ (fun tq kq => XS.goto X0.here hx rfl (pc0 := 103) (pc' := 107) rfl (hb hby d_method_2_103) (by decide) (by decide) kq)
        show Win p e below _ s₁ (mkF mt 107 #[.val (.int c)] [(.int (1 : Int32))])
        exact Win.retN X0 hx hlk e0 (t := .boolean) (z' := (1 : Int32)) hrt (by simp) (hb hby d_method_2_107) (by decide) (by decide) rfl ⟨by rw [own_del, if_neg hc3, if_neg hc9, if_pos hc15], N0, rfl⟩
      · refine Win.st ?_ (fun tq kq => XS.icmpNo X0.here hx rfl (hb hby d_method_2_15) rfl (feq hc15).1 kq)
        show Win p e below _ s₁ (mkF mt 18 #[.val (.int c)] [])
        refine Win.st ?_ (fun tq kq => XS.iloadN X0.here hx rfl (hb hby d_method_2_18) rfl kq)
        show Win p e below _ s₁ (mkF mt 19 #[.val (.int c)] [(.int c)])
        refine Win.st ?_ (fun tq kq => XS.bipush X0.here hx rfl (hb hby d_method_2_19) kq)
        show Win p e below _ s₁ (mkF mt 21 #[.val (.int c)] [(.int (44 : Int32)), (.int c)])
        by_cases hc21 : c = (44 : Int32)
        · refine Win.st ?_ (fun tq kq => XS.icmpYes X0.here hx rfl (pc0 := 21) (pc' := 102) rfl (hb hby d_method_2_21) rfl (teq hc21).1 (by decide) (by decide) kq)
          show Win p e below _ s₁ (mkF mt 102 #[.val (.int c)] [])
          refine Win.st ?_ (fun tq kq => XS.iconst X0.here hx rfl (hb hby d_method_2_102) kq)
          show Win p e below _ s₁ (mkF mt 103 #[.val (.int c)] [(.int (1 : Int32))])
          refine Win.st ?_ (fun tq kq => XS.goto X0.here hx rfl (pc0 := 103) (pc' := 107) rfl (hb hby d_method_2_103) (by decide) (by decide) kq)
          show Win p e below _ s₁ (mkF mt 107 #[.val (.int c)] [(.int (1 : Int32))])
          exact Win.retN X0 hx hlk e0 (t := .boolean) (z' := (1 : Int32)) hrt (by simp) (hb hby d_method_2_107) (by decide) (by decide) rfl ⟨by rw [own_del, if_neg hc3, if_neg hc9, if_neg hc15, if_pos hc21], N0, rfl⟩
        · refine Win.st ?_ (fun tq kq => XS.icmpNo X0.here hx rfl (hb hby d_method_2_21) rfl (feq hc21).1 kq)
          show Win p e below _ s₁ (mkF mt 24 #[.val (.int c)] [])
          refine Win.st ?_ (fun tq kq => XS.iloadN X0.here hx rfl (hb hby d_method_2_24) rfl kq)
          show Win p e below _ s₁ (mkF mt 25 #[.val (.int c)] [(.int c)])
          refine Win.st ?_ (fun tq kq => XS.bipush X0.here hx rfl (hb hby d_method_2_25) kq)
          show Win p e below _ s₁ (mkF mt 27 #[.val (.int c)] [(.int (47 : Int32)), (.int c)])
          by_cases hc27 : c = (47 : Int32)
          · refine Win.st ?_ (fun tq kq => XS.icmpYes X0.here hx rfl (pc0 := 27) (pc' := 102) rfl (hb hby d_method_2_27) rfl (teq hc27).1 (by decide) (by decide) kq)
            show Win p e below _ s₁ (mkF mt 102 #[.val (.int c)] [])
            refine Win.st ?_ (fun tq kq => XS.iconst X0.here hx rfl (hb hby d_method_2_102) kq)
            show Win p e below _ s₁ (mkF mt 103 #[.val (.int c)] [(.int (1 : Int32))])
            refine Win.st ?_ (fun tq kq => XS.goto X0.here hx rfl (pc0 := 103) (pc' := 107) rfl (hb hby d_method_2_103) (by decide) (by decide) kq)
            show Win p e below _ s₁ (mkF mt 107 #[.val (.int c)] [(.int (1 : Int32))])
            exact Win.retN X0 hx hlk e0 (t := .boolean) (z' := (1 : Int32)) hrt (by simp) (hb hby d_method_2_107) (by decide) (by decide) rfl ⟨by rw [own_del, if_neg hc3, if_neg hc9, if_neg hc15, if_neg hc21, if_pos hc27], N0, rfl⟩
          · refine Win.st ?_ (fun tq kq => XS.icmpNo X0.here hx rfl (hb hby d_method_2_27) rfl (feq hc27).1 kq)
            show Win p e below _ s₁ (mkF mt 30 #[.val (.int c)] [])
            refine Win.st ?_ (fun tq kq => XS.iloadN X0.here hx rfl (hb hby d_method_2_30) rfl kq)
            show Win p e below _ s₁ (mkF mt 31 #[.val (.int c)] [(.int c)])
            refine Win.st ?_ (fun tq kq => XS.bipush X0.here hx rfl (hb hby d_method_2_31) kq)
            show Win p e below _ s₁ (mkF mt 33 #[.val (.int c)] [(.int (58 : Int32)), (.int c)])
            by_cases hc33 : c = (58 : Int32)
            · refine Win.st ?_ (fun tq kq => XS.icmpYes X0.here hx rfl (pc0 := 33) (pc' := 102) rfl (hb hby d_method_2_33) rfl (teq hc33).1 (by decide) (by decide) kq)
              show Win p e below _ s₁ (mkF mt 102 #[.val (.int c)] [])
              refine Win.st ?_ (fun tq kq => XS.iconst X0.here hx rfl (hb hby d_method_2_102) kq)
              show Win p e below _ s₁ (mkF mt 103 #[.val (.int c)] [(.int (1 : Int32))])
              refine Win.st ?_ (fun tq kq => XS.goto X0.here hx rfl (pc0 := 103) (pc' := 107) rfl (hb hby d_method_2_103) (by decide) (by decide) kq)
              show Win p e below _ s₁ (mkF mt 107 #[.val (.int c)] [(.int (1 : Int32))])
              exact Win.retN X0 hx hlk e0 (t := .boolean) (z' := (1 : Int32)) hrt (by simp) (hb hby d_method_2_107) (by decide) (by decide) rfl ⟨by rw [own_del, if_neg hc3, if_neg hc9, if_neg hc15, if_neg hc21, if_neg hc27, if_pos hc33], N0, rfl⟩
            · refine Win.st ?_ (fun tq kq => XS.icmpNo X0.here hx rfl (hb hby d_method_2_33) rfl (feq hc33).1 kq)
              show Win p e below _ s₁ (mkF mt 36 #[.val (.int c)] [])
              refine Win.st ?_ (fun tq kq => XS.iloadN X0.here hx rfl (hb hby d_method_2_36) rfl kq)
              show Win p e below _ s₁ (mkF mt 37 #[.val (.int c)] [(.int c)])
              refine Win.st ?_ (fun tq kq => XS.bipush X0.here hx rfl (hb hby d_method_2_37) kq)
              show Win p e below _ s₁ (mkF mt 39 #[.val (.int c)] [(.int (59 : Int32)), (.int c)])
              by_cases hc39 : c = (59 : Int32)
              · refine Win.st ?_ (fun tq kq => XS.icmpYes X0.here hx rfl (pc0 := 39) (pc' := 102) rfl (hb hby d_method_2_39) rfl (teq hc39).1 (by decide) (by decide) kq)
                show Win p e below _ s₁ (mkF mt 102 #[.val (.int c)] [])
                refine Win.st ?_ (fun tq kq => XS.iconst X0.here hx rfl (hb hby d_method_2_102) kq)
                show Win p e below _ s₁ (mkF mt 103 #[.val (.int c)] [(.int (1 : Int32))])
                refine Win.st ?_ (fun tq kq => XS.goto X0.here hx rfl (pc0 := 103) (pc' := 107) rfl (hb hby d_method_2_103) (by decide) (by decide) kq)
                show Win p e below _ s₁ (mkF mt 107 #[.val (.int c)] [(.int (1 : Int32))])
                exact Win.retN X0 hx hlk e0 (t := .boolean) (z' := (1 : Int32)) hrt (by simp) (hb hby d_method_2_107) (by decide) (by decide) rfl ⟨by rw [own_del, if_neg hc3, if_neg hc9, if_neg hc15, if_neg hc21, if_neg hc27, if_neg hc33, if_pos hc39], N0, rfl⟩
              · refine Win.st ?_ (fun tq kq => XS.icmpNo X0.here hx rfl (hb hby d_method_2_39) rfl (feq hc39).1 kq)
                show Win p e below _ s₁ (mkF mt 42 #[.val (.int c)] [])
                refine Win.st ?_ (fun tq kq => XS.iloadN X0.here hx rfl (hb hby d_method_2_42) rfl kq)
                show Win p e below _ s₁ (mkF mt 43 #[.val (.int c)] [(.int c)])
                refine Win.st ?_ (fun tq kq => XS.bipush X0.here hx rfl (hb hby d_method_2_43) kq)
                show Win p e below _ s₁ (mkF mt 45 #[.val (.int c)] [(.int (60 : Int32)), (.int c)])
                by_cases hc45 : c = (60 : Int32)
                · refine Win.st ?_ (fun tq kq => XS.icmpYes X0.here hx rfl (pc0 := 45) (pc' := 102) rfl (hb hby d_method_2_45) rfl (teq hc45).1 (by decide) (by decide) kq)
                  show Win p e below _ s₁ (mkF mt 102 #[.val (.int c)] [])
                  refine Win.st ?_ (fun tq kq => XS.iconst X0.here hx rfl (hb hby d_method_2_102) kq)
                  show Win p e below _ s₁ (mkF mt 103 #[.val (.int c)] [(.int (1 : Int32))])
                  refine Win.st ?_ (fun tq kq => XS.goto X0.here hx rfl (pc0 := 103) (pc' := 107) rfl (hb hby d_method_2_103) (by decide) (by decide) kq)
                  show Win p e below _ s₁ (mkF mt 107 #[.val (.int c)] [(.int (1 : Int32))])
                  exact Win.retN X0 hx hlk e0 (t := .boolean) (z' := (1 : Int32)) hrt (by simp) (hb hby d_method_2_107) (by decide) (by decide) rfl ⟨by rw [own_del, if_neg hc3, if_neg hc9, if_neg hc15, if_neg hc21, if_neg hc27, if_neg hc33, if_neg hc39, if_pos hc45], N0, rfl⟩
                · refine Win.st ?_ (fun tq kq => XS.icmpNo X0.here hx rfl (hb hby d_method_2_45) rfl (feq hc45).1 kq)
                  show Win p e below _ s₁ (mkF mt 48 #[.val (.int c)] [])
                  refine Win.st ?_ (fun tq kq => XS.iloadN X0.here hx rfl (hb hby d_method_2_48) rfl kq)
                  show Win p e below _ s₁ (mkF mt 49 #[.val (.int c)] [(.int c)])
                  refine Win.st ?_ (fun tq kq => XS.bipush X0.here hx rfl (hb hby d_method_2_49) kq)
                  show Win p e below _ s₁ (mkF mt 51 #[.val (.int c)] [(.int (61 : Int32)), (.int c)])
                  by_cases hc51 : c = (61 : Int32)
                  · refine Win.st ?_ (fun tq kq => XS.icmpYes X0.here hx rfl (pc0 := 51) (pc' := 102) rfl (hb hby d_method_2_51) rfl (teq hc51).1 (by decide) (by decide) kq)
                    show Win p e below _ s₁ (mkF mt 102 #[.val (.int c)] [])
                    refine Win.st ?_ (fun tq kq => XS.iconst X0.here hx rfl (hb hby d_method_2_102) kq)
                    show Win p e below _ s₁ (mkF mt 103 #[.val (.int c)] [(.int (1 : Int32))])
                    refine Win.st ?_ (fun tq kq => XS.goto X0.here hx rfl (pc0 := 103) (pc' := 107) rfl (hb hby d_method_2_103) (by decide) (by decide) kq)
                    show Win p e below _ s₁ (mkF mt 107 #[.val (.int c)] [(.int (1 : Int32))])
                    exact Win.retN X0 hx hlk e0 (t := .boolean) (z' := (1 : Int32)) hrt (by simp) (hb hby d_method_2_107) (by decide) (by decide) rfl ⟨by rw [own_del, if_neg hc3, if_neg hc9, if_neg hc15, if_neg hc21, if_neg hc27, if_neg hc33, if_neg hc39, if_neg hc45, if_pos hc51], N0, rfl⟩
                  · refine Win.st ?_ (fun tq kq => XS.icmpNo X0.here hx rfl (hb hby d_method_2_51) rfl (feq hc51).1 kq)
                    show Win p e below _ s₁ (mkF mt 54 #[.val (.int c)] [])
                    refine Win.st ?_ (fun tq kq => XS.iloadN X0.here hx rfl (hb hby d_method_2_54) rfl kq)
                    show Win p e below _ s₁ (mkF mt 55 #[.val (.int c)] [(.int c)])
                    refine Win.st ?_ (fun tq kq => XS.bipush X0.here hx rfl (hb hby d_method_2_55) kq)
                    show Win p e below _ s₁ (mkF mt 57 #[.val (.int c)] [(.int (62 : Int32)), (.int c)])
                    by_cases hc57 : c = (62 : Int32)
                    · refine Win.st ?_ (fun tq kq => XS.icmpYes X0.here hx rfl (pc0 := 57) (pc' := 102) rfl (hb hby d_method_2_57) rfl (teq hc57).1 (by decide) (by decide) kq)
                      show Win p e below _ s₁ (mkF mt 102 #[.val (.int c)] [])
                      refine Win.st ?_ (fun tq kq => XS.iconst X0.here hx rfl (hb hby d_method_2_102) kq)
                      show Win p e below _ s₁ (mkF mt 103 #[.val (.int c)] [(.int (1 : Int32))])
                      refine Win.st ?_ (fun tq kq => XS.goto X0.here hx rfl (pc0 := 103) (pc' := 107) rfl (hb hby d_method_2_103) (by decide) (by decide) kq)
                      show Win p e below _ s₁ (mkF mt 107 #[.val (.int c)] [(.int (1 : Int32))])
                      exact Win.retN X0 hx hlk e0 (t := .boolean) (z' := (1 : Int32)) hrt (by simp) (hb hby d_method_2_107) (by decide) (by decide) rfl ⟨by rw [own_del, if_neg hc3, if_neg hc9, if_neg hc15, if_neg hc21, if_neg hc27, if_neg hc33, if_neg hc39, if_neg hc45, if_neg hc51, if_pos hc57], N0, rfl⟩
                    · refine Win.st ?_ (fun tq kq => XS.icmpNo X0.here hx rfl (hb hby d_method_2_57) rfl (feq hc57).1 kq)
                      show Win p e below _ s₁ (mkF mt 60 #[.val (.int c)] [])
                      refine Win.st ?_ (fun tq kq => XS.iloadN X0.here hx rfl (hb hby d_method_2_60) rfl kq)
                      show Win p e below _ s₁ (mkF mt 61 #[.val (.int c)] [(.int c)])
                      refine Win.st ?_ (fun tq kq => XS.bipush X0.here hx rfl (hb hby d_method_2_61) kq)
                      show Win p e below _ s₁ (mkF mt 63 #[.val (.int c)] [(.int (63 : Int32)), (.int c)])
                      by_cases hc63 : c = (63 : Int32)
                      · refine Win.st ?_ (fun tq kq => XS.icmpYes X0.here hx rfl (pc0 := 63) (pc' := 102) rfl (hb hby d_method_2_63) rfl (teq hc63).1 (by decide) (by decide) kq)
                        show Win p e below _ s₁ (mkF mt 102 #[.val (.int c)] [])
                        refine Win.st ?_ (fun tq kq => XS.iconst X0.here hx rfl (hb hby d_method_2_102) kq)
                        show Win p e below _ s₁ (mkF mt 103 #[.val (.int c)] [(.int (1 : Int32))])
                        refine Win.st ?_ (fun tq kq => XS.goto X0.here hx rfl (pc0 := 103) (pc' := 107) rfl (hb hby d_method_2_103) (by decide) (by decide) kq)
                        show Win p e below _ s₁ (mkF mt 107 #[.val (.int c)] [(.int (1 : Int32))])
                        exact Win.retN X0 hx hlk e0 (t := .boolean) (z' := (1 : Int32)) hrt (by simp) (hb hby d_method_2_107) (by decide) (by decide) rfl ⟨by rw [own_del, if_neg hc3, if_neg hc9, if_neg hc15, if_neg hc21, if_neg hc27, if_neg hc33, if_neg hc39, if_neg hc45, if_neg hc51, if_neg hc57, if_pos hc63], N0, rfl⟩
                      · refine Win.st ?_ (fun tq kq => XS.icmpNo X0.here hx rfl (hb hby d_method_2_63) rfl (feq hc63).1 kq)
                        show Win p e below _ s₁ (mkF mt 66 #[.val (.int c)] [])
                        refine Win.st ?_ (fun tq kq => XS.iloadN X0.here hx rfl (hb hby d_method_2_66) rfl kq)
                        show Win p e below _ s₁ (mkF mt 67 #[.val (.int c)] [(.int c)])
                        refine Win.st ?_ (fun tq kq => XS.bipush X0.here hx rfl (hb hby d_method_2_67) kq)
                        show Win p e below _ s₁ (mkF mt 69 #[.val (.int c)] [(.int (64 : Int32)), (.int c)])
                        by_cases hc69 : c = (64 : Int32)
                        · refine Win.st ?_ (fun tq kq => XS.icmpYes X0.here hx rfl (pc0 := 69) (pc' := 102) rfl (hb hby d_method_2_69) rfl (teq hc69).1 (by decide) (by decide) kq)
                          show Win p e below _ s₁ (mkF mt 102 #[.val (.int c)] [])
                          refine Win.st ?_ (fun tq kq => XS.iconst X0.here hx rfl (hb hby d_method_2_102) kq)
                          show Win p e below _ s₁ (mkF mt 103 #[.val (.int c)] [(.int (1 : Int32))])
                          refine Win.st ?_ (fun tq kq => XS.goto X0.here hx rfl (pc0 := 103) (pc' := 107) rfl (hb hby d_method_2_103) (by decide) (by decide) kq)
                          show Win p e below _ s₁ (mkF mt 107 #[.val (.int c)] [(.int (1 : Int32))])
                          exact Win.retN X0 hx hlk e0 (t := .boolean) (z' := (1 : Int32)) hrt (by simp) (hb hby d_method_2_107) (by decide) (by decide) rfl ⟨by rw [own_del, if_neg hc3, if_neg hc9, if_neg hc15, if_neg hc21, if_neg hc27, if_neg hc33, if_neg hc39, if_neg hc45, if_neg hc51, if_neg hc57, if_neg hc63, if_pos hc69], N0, rfl⟩
                        · refine Win.st ?_ (fun tq kq => XS.icmpNo X0.here hx rfl (hb hby d_method_2_69) rfl (feq hc69).1 kq)
                          show Win p e below _ s₁ (mkF mt 72 #[.val (.int c)] [])
                          refine Win.st ?_ (fun tq kq => XS.iloadN X0.here hx rfl (hb hby d_method_2_72) rfl kq)
                          show Win p e below _ s₁ (mkF mt 73 #[.val (.int c)] [(.int c)])
                          refine Win.st ?_ (fun tq kq => XS.bipush X0.here hx rfl (hb hby d_method_2_73) kq)
                          show Win p e below _ s₁ (mkF mt 75 #[.val (.int c)] [(.int (91 : Int32)), (.int c)])
                          by_cases hc75 : c = (91 : Int32)
                          · refine Win.st ?_ (fun tq kq => XS.icmpYes X0.here hx rfl (pc0 := 75) (pc' := 102) rfl (hb hby d_method_2_75) rfl (teq hc75).1 (by decide) (by decide) kq)
                            show Win p e below _ s₁ (mkF mt 102 #[.val (.int c)] [])
                            refine Win.st ?_ (fun tq kq => XS.iconst X0.here hx rfl (hb hby d_method_2_102) kq)
                            show Win p e below _ s₁ (mkF mt 103 #[.val (.int c)] [(.int (1 : Int32))])
                            refine Win.st ?_ (fun tq kq => XS.goto X0.here hx rfl (pc0 := 103) (pc' := 107) rfl (hb hby d_method_2_103) (by decide) (by decide) kq)
                            show Win p e below _ s₁ (mkF mt 107 #[.val (.int c)] [(.int (1 : Int32))])
                            exact Win.retN X0 hx hlk e0 (t := .boolean) (z' := (1 : Int32)) hrt (by simp) (hb hby d_method_2_107) (by decide) (by decide) rfl ⟨by rw [own_del, if_neg hc3, if_neg hc9, if_neg hc15, if_neg hc21, if_neg hc27, if_neg hc33, if_neg hc39, if_neg hc45, if_neg hc51, if_neg hc57, if_neg hc63, if_neg hc69, if_pos hc75], N0, rfl⟩
                          · refine Win.st ?_ (fun tq kq => XS.icmpNo X0.here hx rfl (hb hby d_method_2_75) rfl (feq hc75).1 kq)
                            show Win p e below _ s₁ (mkF mt 78 #[.val (.int c)] [])
                            refine Win.st ?_ (fun tq kq => XS.iloadN X0.here hx rfl (hb hby d_method_2_78) rfl kq)
                            show Win p e below _ s₁ (mkF mt 79 #[.val (.int c)] [(.int c)])
                            refine Win.st ?_ (fun tq kq => XS.bipush X0.here hx rfl (hb hby d_method_2_79) kq)
                            show Win p e below _ s₁ (mkF mt 81 #[.val (.int c)] [(.int (92 : Int32)), (.int c)])
                            by_cases hc81 : c = (92 : Int32)
                            · refine Win.st ?_ (fun tq kq => XS.icmpYes X0.here hx rfl (pc0 := 81) (pc' := 102) rfl (hb hby d_method_2_81) rfl (teq hc81).1 (by decide) (by decide) kq)
                              show Win p e below _ s₁ (mkF mt 102 #[.val (.int c)] [])
                              refine Win.st ?_ (fun tq kq => XS.iconst X0.here hx rfl (hb hby d_method_2_102) kq)
                              show Win p e below _ s₁ (mkF mt 103 #[.val (.int c)] [(.int (1 : Int32))])
                              refine Win.st ?_ (fun tq kq => XS.goto X0.here hx rfl (pc0 := 103) (pc' := 107) rfl (hb hby d_method_2_103) (by decide) (by decide) kq)
                              show Win p e below _ s₁ (mkF mt 107 #[.val (.int c)] [(.int (1 : Int32))])
                              exact Win.retN X0 hx hlk e0 (t := .boolean) (z' := (1 : Int32)) hrt (by simp) (hb hby d_method_2_107) (by decide) (by decide) rfl ⟨by rw [own_del, if_neg hc3, if_neg hc9, if_neg hc15, if_neg hc21, if_neg hc27, if_neg hc33, if_neg hc39, if_neg hc45, if_neg hc51, if_neg hc57, if_neg hc63, if_neg hc69, if_neg hc75, if_pos hc81], N0, rfl⟩
                            · refine Win.st ?_ (fun tq kq => XS.icmpNo X0.here hx rfl (hb hby d_method_2_81) rfl (feq hc81).1 kq)
                              show Win p e below _ s₁ (mkF mt 84 #[.val (.int c)] [])
                              refine Win.st ?_ (fun tq kq => XS.iloadN X0.here hx rfl (hb hby d_method_2_84) rfl kq)
                              show Win p e below _ s₁ (mkF mt 85 #[.val (.int c)] [(.int c)])
                              refine Win.st ?_ (fun tq kq => XS.bipush X0.here hx rfl (hb hby d_method_2_85) kq)
                              show Win p e below _ s₁ (mkF mt 87 #[.val (.int c)] [(.int (93 : Int32)), (.int c)])
                              by_cases hc87 : c = (93 : Int32)
                              · refine Win.st ?_ (fun tq kq => XS.icmpYes X0.here hx rfl (pc0 := 87) (pc' := 102) rfl (hb hby d_method_2_87) rfl (teq hc87).1 (by decide) (by decide) kq)
                                show Win p e below _ s₁ (mkF mt 102 #[.val (.int c)] [])
                                refine Win.st ?_ (fun tq kq => XS.iconst X0.here hx rfl (hb hby d_method_2_102) kq)
                                show Win p e below _ s₁ (mkF mt 103 #[.val (.int c)] [(.int (1 : Int32))])
                                refine Win.st ?_ (fun tq kq => XS.goto X0.here hx rfl (pc0 := 103) (pc' := 107) rfl (hb hby d_method_2_103) (by decide) (by decide) kq)
                                show Win p e below _ s₁ (mkF mt 107 #[.val (.int c)] [(.int (1 : Int32))])
                                exact Win.retN X0 hx hlk e0 (t := .boolean) (z' := (1 : Int32)) hrt (by simp) (hb hby d_method_2_107) (by decide) (by decide) rfl ⟨by rw [own_del, if_neg hc3, if_neg hc9, if_neg hc15, if_neg hc21, if_neg hc27, if_neg hc33, if_neg hc39, if_neg hc45, if_neg hc51, if_neg hc57, if_neg hc63, if_neg hc69, if_neg hc75, if_neg hc81, if_pos hc87], N0, rfl⟩
                              · refine Win.st ?_ (fun tq kq => XS.icmpNo X0.here hx rfl (hb hby d_method_2_87) rfl (feq hc87).1 kq)
                                show Win p e below _ s₁ (mkF mt 90 #[.val (.int c)] [])
                                refine Win.st ?_ (fun tq kq => XS.iloadN X0.here hx rfl (hb hby d_method_2_90) rfl kq)
                                show Win p e below _ s₁ (mkF mt 91 #[.val (.int c)] [(.int c)])
                                refine Win.st ?_ (fun tq kq => XS.bipush X0.here hx rfl (hb hby d_method_2_91) kq)
                                show Win p e below _ s₁ (mkF mt 93 #[.val (.int c)] [(.int (123 : Int32)), (.int c)])
                                by_cases hc93 : c = (123 : Int32)
                                · refine Win.st ?_ (fun tq kq => XS.icmpYes X0.here hx rfl (pc0 := 93) (pc' := 102) rfl (hb hby d_method_2_93) rfl (teq hc93).1 (by decide) (by decide) kq)
                                  show Win p e below _ s₁ (mkF mt 102 #[.val (.int c)] [])
                                  refine Win.st ?_ (fun tq kq => XS.iconst X0.here hx rfl (hb hby d_method_2_102) kq)
                                  show Win p e below _ s₁ (mkF mt 103 #[.val (.int c)] [(.int (1 : Int32))])
                                  refine Win.st ?_ (fun tq kq => XS.goto X0.here hx rfl (pc0 := 103) (pc' := 107) rfl (hb hby d_method_2_103) (by decide) (by decide) kq)
                                  show Win p e below _ s₁ (mkF mt 107 #[.val (.int c)] [(.int (1 : Int32))])
                                  exact Win.retN X0 hx hlk e0 (t := .boolean) (z' := (1 : Int32)) hrt (by simp) (hb hby d_method_2_107) (by decide) (by decide) rfl ⟨by rw [own_del, if_neg hc3, if_neg hc9, if_neg hc15, if_neg hc21, if_neg hc27, if_neg hc33, if_neg hc39, if_neg hc45, if_neg hc51, if_neg hc57, if_neg hc63, if_neg hc69, if_neg hc75, if_neg hc81, if_neg hc87, if_pos hc93], N0, rfl⟩
                                · refine Win.st ?_ (fun tq kq => XS.icmpNo X0.here hx rfl (hb hby d_method_2_93) rfl (feq hc93).1 kq)
                                  show Win p e below _ s₁ (mkF mt 96 #[.val (.int c)] [])
                                  refine Win.st ?_ (fun tq kq => XS.iloadN X0.here hx rfl (hb hby d_method_2_96) rfl kq)
                                  show Win p e below _ s₁ (mkF mt 97 #[.val (.int c)] [(.int c)])
                                  refine Win.st ?_ (fun tq kq => XS.bipush X0.here hx rfl (hb hby d_method_2_97) kq)
                                  show Win p e below _ s₁ (mkF mt 99 #[.val (.int c)] [(.int (125 : Int32)), (.int c)])
                                  by_cases hc99 : c = (125 : Int32)
                                  · refine Win.st ?_ (fun tq kq => XS.icmpNo X0.here hx rfl (hb hby d_method_2_99) rfl (teq hc99).2 kq)
                                    show Win p e below _ s₁ (mkF mt 102 #[.val (.int c)] [])
                                    refine Win.st ?_ (fun tq kq => XS.iconst X0.here hx rfl (hb hby d_method_2_102) kq)
                                    show Win p e below _ s₁ (mkF mt 103 #[.val (.int c)] [(.int (1 : Int32))])
                                    refine Win.st ?_ (fun tq kq => XS.goto X0.here hx rfl (pc0 := 103) (pc' := 107) rfl (hb hby d_method_2_103) (by decide) (by decide) kq)
                                    show Win p e below _ s₁ (mkF mt 107 #[.val (.int c)] [(.int (1 : Int32))])
                                    exact Win.retN X0 hx hlk e0 (t := .boolean) (z' := (1 : Int32)) hrt (by simp) (hb hby d_method_2_107) (by decide) (by decide) rfl ⟨by rw [own_del, if_neg hc3, if_neg hc9, if_neg hc15, if_neg hc21, if_neg hc27, if_neg hc33, if_neg hc39, if_neg hc45, if_neg hc51, if_neg hc57, if_neg hc63, if_neg hc69, if_neg hc75, if_neg hc81, if_neg hc87, if_neg hc93, if_pos hc99], N0, rfl⟩
                                  · refine Win.st ?_ (fun tq kq => XS.icmpYes X0.here hx rfl (pc0 := 99) (pc' := 106) rfl (hb hby d_method_2_99) rfl (feq hc99).2 (by decide) (by decide) kq)
                                    show Win p e below _ s₁ (mkF mt 106 #[.val (.int c)] [])
                                    refine Win.st ?_ (fun tq kq => XS.iconst X0.here hx rfl (hb hby d_method_2_106) kq)
                                    show Win p e below _ s₁ (mkF mt 107 #[.val (.int c)] [(.int (0 : Int32))])
                                    exact Win.retN X0 hx hlk e0 (t := .boolean) (z' := (0 : Int32)) hrt (by simp) (hb hby d_method_2_107) (by decide) (by decide) rfl ⟨by rw [own_del, if_neg hc3, if_neg hc9, if_neg hc15, if_neg hc21, if_neg hc27, if_neg hc33, if_neg hc39, if_neg hc45, if_neg hc51, if_neg hc57, if_neg hc63, if_neg hc69, if_neg hc75, if_neg hc81, if_neg hc87, if_neg hc93, if_neg hc99], N0, rfl⟩
theorem d_jdk_43_method_4_0 : decode jdk_43_method_4_code 0 = .ok (.iload_n 0, 1) := by decide +kernel
theorem d_jdk_43_method_4_1 : decode jdk_43_method_4_code 1 = .ok (.ifCond .lt 14, 3) := by decide +kernel
theorem d_jdk_43_method_4_4 : decode jdk_43_method_4_code 4 = .ok (.iload_n 0, 1) := by decide +kernel
theorem d_jdk_43_method_4_5 : decode jdk_43_method_4_code 5 = .ok (.sipush 255, 3) := by decide +kernel
theorem d_jdk_43_method_4_8 : decode jdk_43_method_4_code 8 = .ok (.if_icmp .gt 7, 3) := by decide +kernel
theorem d_jdk_43_method_4_15 : decode jdk_43_method_4_code 15 = .ok (.iconst 0, 1) := by decide +kernel
theorem d_jdk_43_method_4_16 : decode jdk_43_method_4_code 16 = .ok (.ireturn, 1) := by decide +kernel
theorem d_jdk_43_method_4_11 : decode jdk_43_method_4_code 11 = .ok (.iconst 1, 1) := by decide +kernel
theorem d_jdk_43_method_4_12 : decode jdk_43_method_4_code 12 = .ok (.goto 4, 3) := by decide +kernel
theorem pn_3 : plainName "java/lang/StringLatin1" = true := by first | (simp [plainName, overriddenIn]; done) | decide +kernel
theorem ef_cei (mt : MethodId) (x : Int32) : entryFrame mt #[(.int x)] 1 = mkF mt 0 #[.val (.int x)] [] := by first | (simp [entryFrame, mkF, argsToLocals, Value.category]; done) | rfl
def Q_cei (Z : State) (x : Int32) (h0 : Heap) (n0 : Nat) (v : Option Value) (h : Heap) (L : List Loc) : Prop := v = some (.int (if (255 : Int32) < x then (0 : Int32) else 1)) ∧ Fr n0 L ∧ h = h0
set_option maxRecDepth 65536 in
set_option maxHeartbeats 40000000 in
theorem rm_cei (l : Launch) (Z : State) (a0 : Array Value) (hw : ∀ d ∈ tables_1, d.before a0 Z = true) (ws : List Jvm.Cond) (x : Int32) (h0 : Heap) (n0 : Nat) (Z0 : n0 ≤ h0.size) (hx0 : ¬ x < (0 : Int32)) :
    MetFree l (⟨"java/lang/StringLatin1", "canEncode", "(I)Z"⟩ : MethodName) (head1 (Jvm.Cond.code (⟨"java/lang/StringLatin1", "canEncode", "(I)Z"⟩ : MethodName) jdk_43_method_4_code 1 (some .boolean) :: ws) ({ frames := 0, cells := 0, slots := 0, locals := 0 } : Room)) (fun aa UU => aa = #[(.int x)] ∧ Z.Warmed39 UU.vm ∧ UU.heap = h0) (fun _ _ _ _ _ => True) (fun _ UU oo UU' => ∃ vv LL, oo = .returned vv ∧ Q_cei Z x h0 n0 vv UU'.heap LL ∧ FrameEnd UU oo UU' LL ({ frames := 0, cells := 0, slots := 0, locals := 0 } : Room).cells ({ frames := 0, cells := 0, slots := 0, locals := 0 } : Room).slots) := by
  refine MetFree.of_bodySF (plainFor_of_name pn_3) hisR ?_
  intro p e s mt args below meth cd s₁ Bd hml0 hP hK
  obtain ⟨hA, hZ, hh⟩ := hP
  have hx := Bd.exec
  have hby := Bd.bytes
  have hml : cd.maxLocals = 1 := hml0
  have hown : s.vm.findClass "java/lang/StringLatin1" = some mt.cls := findClass_of_methodNamed Bd.named
  have hnm := (name_of_methodNamed Bd.named Bd.method).1
  have hlk : meth.locks = false := BodyLoose.notSynchronized Bd
  have hrt := Bd.returns
  have X0 : Stand p l e ({ frames := 0, cells := 0, slots := 0, locals := 0 } : Room) s mt args below meth cd s₁ [] 0 0 := Stand.of_body Bd
  have e0 : s₁.heap = h0 := by rw [← hh, Bd.state]; rfl
  have N0 := Fr.nil n0
  show Win p e below (Ends s (Q_cei Z x h0 n0) ({ frames := 0, cells := 0, slots := 0, locals := 0 } : Room).cells ({ frames := 0, cells := 0, slots := 0, locals := 0 } : Room).slots) s₁ (entryFrame mt args 1)
  rw [hA, ef_cei]
  refine Win.st ?_ (fun tq kq => XS.iloadN X0.here hx rfl (hb hby d_jdk_43_method_4_0) rfl kq)
  show Win p e below _ s₁ (mkF mt 1 #[.val (.int x)] [(.int x)])
  refine Win.st ?_ (fun tq kq => XS.ifNo X0.here hx rfl (hb hby d_jdk_43_method_4_1) rfl ((if0 _ _).trans (flt hx0).1) kq)
  show Win p e below _ s₁ (mkF mt 4 #[.val (.int x)] [])
  refine Win.st ?_ (fun tq kq => XS.iloadN X0.here hx rfl (hb hby d_jdk_43_method_4_4) rfl kq)
  show Win p e below _ s₁ (mkF mt 5 #[.val (.int x)] [(.int x)])
  refine Win.st ?_ (fun tq kq => XS.sipush X0.here hx rfl (hb hby d_jdk_43_method_4_5) kq)
  show Win p e below _ s₁ (mkF mt 8 #[.val (.int x)] [(.int (255 : Int32)), (.int x)])
  by_cases hc8 : (255 : Int32) < x
  · refine Win.st ?_ (fun tq kq => XS.icmpYes X0.here hx rfl (pc0 := 8) (pc' := 15) rfl (hb hby d_jdk_43_method_4_8) rfl (tlt hc8).2.2.1 (by decide) (by decide) kq)
    show Win p e below _ s₁ (mkF mt 15 #[.val (.int x)] [])
    refine Win.st ?_ (fun tq kq => XS.iconst X0.here hx rfl (hb hby d_jdk_43_method_4_15) kq)
    show Win p e below _ s₁ (mkF mt 16 #[.val (.int x)] [(.int (0 : Int32))])
    exact Win.retN X0 hx hlk e0 (t := .boolean) (z' := (0 : Int32)) hrt (by simp) (hb hby d_jdk_43_method_4_16) (by decide) (by decide) rfl ⟨by rw [if_pos hc8], N0, rfl⟩
  · refine Win.st ?_ (fun tq kq => XS.icmpNo X0.here hx rfl (hb hby d_jdk_43_method_4_8) rfl (flt hc8).2.2.1 kq)
    show Win p e below _ s₁ (mkF mt 11 #[.val (.int x)] [])
    refine Win.st ?_ (fun tq kq => XS.iconst X0.here hx rfl (hb hby d_jdk_43_method_4_11) kq)
    show Win p e below _ s₁ (mkF mt 12 #[.val (.int x)] [(.int (1 : Int32))])
    refine Win.st ?_ (fun tq kq => XS.goto X0.here hx rfl (pc0 := 12) (pc' := 16) rfl (hb hby d_jdk_43_method_4_12) (by decide) (by decide) kq)
    show Win p e below _ s₁ (mkF mt 16 #[.val (.int x)] [(.int (1 : Int32))])
    exact Win.retN X0 hx hlk e0 (t := .boolean) (z' := (1 : Int32)) hrt (by simp) (hb hby d_jdk_43_method_4_16) (by decide) (by decide) rfl ⟨by rw [if_neg hc8], N0, rfl⟩
theorem d_jdk_43_method_23_0 : decode jdk_43_method_23_code 0 = .ok (.iload_n 1, 1) := by decide +kernel
theorem d_jdk_43_method_23_1 : decode jdk_43_method_23_code 1 = .ok (.i2b, 1) := by decide +kernel
theorem d_jdk_43_method_23_2 : decode jdk_43_method_23_code 2 = .ok (.istore 4, 2) := by decide +kernel
theorem d_jdk_43_method_23_4 : decode jdk_43_method_23_code 4 = .ok (.iload_n 2, 1) := by decide +kernel
theorem d_jdk_43_method_23_5 : decode jdk_43_method_23_code 5 = .ok (.istore 5, 2) := by decide +kernel
theorem d_jdk_43_method_23_7 : decode jdk_43_method_23_code 7 = .ok (.iload 5, 2) := by decide +kernel
theorem d_jdk_43_method_23_9 : decode jdk_43_method_23_code 9 = .ok (.iload_n 3, 1) := by decide +kernel
theorem d_jdk_43_method_23_10 : decode jdk_43_method_23_code 10 = .ok (.if_icmp .ge 21, 3) := by decide +kernel
theorem d_jdk_43_method_23_13 : decode jdk_43_method_23_code 13 = .ok (.aload_n 0, 1) := by decide +kernel
theorem d_jdk_43_method_23_14 : decode jdk_43_method_23_code 14 = .ok (.iload 5, 2) := by decide +kernel
theorem d_jdk_43_method_23_16 : decode jdk_43_method_23_code 16 = .ok (.baload, 1) := by decide +kernel
theorem d_jdk_43_method_23_17 : decode jdk_43_method_23_code 17 = .ok (.iload 4, 2) := by decide +kernel
theorem d_jdk_43_method_23_19 : decode jdk_43_method_23_code 19 = .ok (.if_icmp .ne 6, 3) := by decide +kernel
theorem d_jdk_43_method_23_22 : decode jdk_43_method_23_code 22 = .ok (.iload 5, 2) := by decide +kernel
theorem d_jdk_43_method_23_24 : decode jdk_43_method_23_code 24 = .ok (.ireturn, 1) := by decide +kernel
theorem d_jdk_43_method_23_25 : decode jdk_43_method_23_code 25 = .ok (.iinc 5 1, 3) := by decide +kernel
theorem d_jdk_43_method_23_28 : decode jdk_43_method_23_code 28 = .ok (.goto (-21), 3) := by decide +kernel
theorem d_jdk_43_method_23_31 : decode jdk_43_method_23_code 31 = .ok (.iconst (-1), 1) := by decide +kernel
theorem d_jdk_43_method_23_32 : decode jdk_43_method_23_code 32 = .ok (.ireturn, 1) := by decide +kernel
theorem ef_ioc (mt : MethodId) (b : Addr) (c : Int32) : entryFrame mt #[(.ref b), (.int c), (.int (0 : Int32)), (.int (15 : Int32))] 6 = mkF mt 0 #[.val (.ref b), .val (.int c), .val (.int (0 : Int32)), .val (.int (15 : Int32)), .unset, .unset] [] := by first | (simp [entryFrame, mkF, argsToLocals, Value.category]; done) | rfl
def Q_ioc (Z : State) (b : Addr) (c : Int32) (kb : ClassId) (h0 : Heap) (n0 : Nat) (v : Option Value) (h : Heap) (L : List Loc) : Prop := ∃ r : Int32, v = some (.int r) ∧ Fr n0 L ∧ h = h0 ∧ (r < 0 ↔ (¬ (c = (33 : Int32)) ∧ ¬ (c = (35 : Int32)) ∧ ¬ (c = (36 : Int32)) ∧ ¬ (c = (37 : Int32)) ∧ ¬ (c = (38 : Int32)) ∧ ¬ (c = (39 : Int32)) ∧ ¬ (c = (42 : Int32)) ∧ ¬ (c = (43 : Int32)) ∧ ¬ (c = (45 : Int32)) ∧ ¬ (c = (46 : Int32)) ∧ ¬ (c = (94 : Int32)) ∧ ¬ (c = (95 : Int32)) ∧ ¬ (c = (96 : Int32)) ∧ ¬ (c = (124 : Int32)) ∧ ¬ (c = (126 : Int32))))
set_option maxRecDepth 65536 in
set_option maxHeartbeats 40000000 in
theorem rm_ioc (l : Launch) (Z : State) (a0 : Array Value) (hw : ∀ d ∈ tables_1, d.before a0 Z = true) (ws : List Jvm.Cond) (b : Addr) (c : Int32) (kb : ClassId) (h0 : Heap) (n0 : Nat) (Z0 : n0 ≤ h0.size) (VB : Arv Z h0 b kb .byte (15 : Int32) [(.int (33 : Int32)), (.int (35 : Int32)), (.int (36 : Int32)), (.int (37 : Int32)), (.int (38 : Int32)), (.int (39 : Int32)), (.int (42 : Int32)), (.int (43 : Int32)), (.int (45 : Int32)), (.int (46 : Int32)), (.int (94 : Int32)), (.int (95 : Int32)), (.int (96 : Int32)), (.int (124 : Int32)), (.int (126 : Int32))] (.int (0 : Int32))) (hcB : own_B c) :
    MetFree l (⟨"java/lang/StringLatin1", "indexOfChar", "([BIII)I"⟩ : MethodName) (head1 (Jvm.Cond.code (⟨"java/lang/StringLatin1", "indexOfChar", "([BIII)I"⟩ : MethodName) jdk_43_method_23_code 6 (some .int) :: ws) ({ frames := 0, cells := 0, slots := 0, locals := 0 } : Room)) (fun aa UU => aa = #[(.ref b), (.int c), (.int (0 : Int32)), (.int (15 : Int32))] ∧ Z.Warmed39 UU.vm ∧ UU.heap = h0) (fun _ _ _ _ _ => True) (fun _ UU oo UU' => ∃ vv LL, oo = .returned vv ∧ Q_ioc Z b c kb h0 n0 vv UU'.heap LL ∧ FrameEnd UU oo UU' LL ({ frames := 0, cells := 0, slots := 0, locals := 0 } : Room).cells ({ frames := 0, cells := 0, slots := 0, locals := 0 } : Room).slots) := by
  refine MetFree.of_bodySF (plainFor_of_name pn_3) hisR ?_
  intro p e s mt args below meth cd s₁ Bd hml0 hP hK
  obtain ⟨hA, hZ, hh⟩ := hP
  have hx := Bd.exec
  have hby := Bd.bytes
  have hml : cd.maxLocals = 6 := hml0
  have hown : s.vm.findClass "java/lang/StringLatin1" = some mt.cls := findClass_of_methodNamed Bd.named
  have hnm := (name_of_methodNamed Bd.named Bd.method).1
  have hlk : meth.locks = false := BodyLoose.notSynchronized Bd
  have hrt := Bd.returns
  have X0 : Stand p l e ({ frames := 0, cells := 0, slots := 0, locals := 0 } : Room) s mt args below meth cd s₁ [] 0 0 := Stand.of_body Bd
  have e0 : s₁.heap = h0 := by rw [← hh, Bd.state]; rfl
  have N0 := Fr.nil n0
  show Win p e below (Ends s (Q_ioc Z b c kb h0 n0) ({ frames := 0, cells := 0, slots := 0, locals := 0 } : Room).cells ({ frames := 0, cells := 0, slots := 0, locals := 0 } : Room).slots) s₁ (entryFrame mt args 6)
  rw [hA, ef_ioc]
  refine Win.st ?_ (fun tq kq => XS.iloadN X0.here hx rfl (hb hby d_jdk_43_method_23_0) rfl kq)
  show Win p e below _ s₁ (mkF mt 1 #[.val (.ref b), .val (.int c), .val (.int (0 : Int32)), .val (.int (15 : Int32)), .unset, .unset] [(.int c)])
  refine Win.st ?_ (fun tq kq => XS.i2b X0.here hx rfl (hb hby d_jdk_43_method_23_1) rfl kq)
  show Win p e below _ s₁ (mkF mt 2 #[.val (.ref b), .val (.int c), .val (.int (0 : Int32)), .val (.int (15 : Int32)), .unset, .unset] [(.int (c.toInt8.toInt32))])
  refine Win.st ?_ (fun tq kq => XS.istore X0.here hx rfl (hb hby d_jdk_43_method_23_2) rfl (l' := #[.val (.ref b), .val (.int c), .val (.int (0 : Int32)), .val (.int (15 : Int32)), .val (.int (c.toInt8.toInt32)), .unset]) rfl kq)
  show Win p e below _ s₁ (mkF mt 4 #[.val (.ref b), .val (.int c), .val (.int (0 : Int32)), .val (.int (15 : Int32)), .val (.int (c.toInt8.toInt32)), .unset] [])
  refine Win.st ?_ (fun tq kq => XS.iloadN X0.here hx rfl (hb hby d_jdk_43_method_23_4) rfl kq)
  show Win p e below _ s₁ (mkF mt 5 #[.val (.ref b), .val (.int c), .val (.int (0 : Int32)), .val (.int (15 : Int32)), .val (.int (c.toInt8.toInt32)), .unset] [(.int (0 : Int32))])
  refine Win.st ?_ (fun tq kq => XS.istore X0.here hx rfl (hb hby d_jdk_43_method_23_5) rfl (l' := #[.val (.ref b), .val (.int c), .val (.int (0 : Int32)), .val (.int (15 : Int32)), .val (.int (c.toInt8.toInt32)), .val (.int (0 : Int32))]) rfl kq)
  show Win p e below _ s₁ (mkF mt 7 #[.val (.ref b), .val (.int c), .val (.int (0 : Int32)), .val (.int (15 : Int32)), .val (.int (c.toInt8.toInt32)), .val (.int (0 : Int32))] [])
  refine Win.st ?_ (fun tq kq => XS.iload X0.here hx rfl (hb hby d_jdk_43_method_23_7) rfl kq)
  show Win p e below _ s₁ (mkF mt 9 #[.val (.ref b), .val (.int c), .val (.int (0 : Int32)), .val (.int (15 : Int32)), .val (.int (c.toInt8.toInt32)), .val (.int (0 : Int32))] [(.int (0 : Int32))])
  refine Win.st ?_ (fun tq kq => XS.iloadN X0.here hx rfl (hb hby d_jdk_43_method_23_9) rfl kq)
  show Win p e below _ s₁ (mkF mt 10 #[.val (.ref b), .val (.int c), .val (.int (0 : Int32)), .val (.int (15 : Int32)), .val (.int (c.toInt8.toInt32)), .val (.int (0 : Int32))] [(.int (15 : Int32)), (.int (0 : Int32))])
  refine Win.st ?_ (fun tq kq => XS.icmpNo X0.here hx rfl (hb hby d_jdk_43_method_23_10) rfl (tlt (by decide : (0 : Int32) < (15 : Int32))).2.1 kq)
  show Win p e below _ s₁ (mkF mt 13 #[.val (.ref b), .val (.int c), .val (.int (0 : Int32)), .val (.int (15 : Int32)), .val (.int (c.toInt8.toInt32)), .val (.int (0 : Int32))] [])
  refine Win.st ?_ (fun tq kq => XS.aloadN X0.here hx rfl (hb hby d_jdk_43_method_23_13) rfl rfl kq)
  show Win p e below _ s₁ (mkF mt 14 #[.val (.ref b), .val (.int c), .val (.int (0 : Int32)), .val (.int (15 : Int32)), .val (.int (c.toInt8.toInt32)), .val (.int (0 : Int32))] [(.ref b)])
  refine Win.st ?_ (fun tq kq => XS.iload X0.here hx rfl (hb hby d_jdk_43_method_23_14) rfl kq)
  show Win p e below _ s₁ (mkF mt 16 #[.val (.ref b), .val (.int c), .val (.int (0 : Int32)), .val (.int (15 : Int32)), .val (.int (c.toInt8.toInt32)), .val (.int (0 : Int32))] [(.int (0 : Int32)), (.ref b)])
  refine Win.st ?_ (own_bald (g := (mkF mt 16 #[.val (.ref b), .val (.int c), .val (.int (0 : Int32)), .val (.int (15 : Int32)), .val (.int (c.toInt8.toInt32)), .val (.int (0 : Int32))] [(.int (0 : Int32)), (.ref b)])) X0 hx hZ e0 VB (j := (0 : Int32)) (v := (.int (33 : Int32))) (by decide) (by decide) rfl rfl rfl (hb hby d_jdk_43_method_23_16))
  show Win p e below _ s₁ (mkF mt 17 #[.val (.ref b), .val (.int c), .val (.int (0 : Int32)), .val (.int (15 : Int32)), .val (.int (c.toInt8.toInt32)), .val (.int (0 : Int32))] [(.int (33 : Int32))])
  refine Win.st ?_ (fun tq kq => XS.iload X0.here hx rfl (hb hby d_jdk_43_method_23_17) rfl kq)
  show Win p e below _ s₁ (mkF mt 19 #[.val (.ref b), .val (.int c), .val (.int (0 : Int32)), .val (.int (15 : Int32)), .val (.int (c.toInt8.toInt32)), .val (.int (0 : Int32))] [(.int (c.toInt8.toInt32)), (.int (33 : Int32))])
  by_cases hc19 : (33 : Int32) = (c.toInt8.toInt32)
  · refine Win.st ?_ (fun tq kq => XS.icmpNo X0.here hx rfl (hb hby d_jdk_43_method_23_19) rfl (teq hc19).2 kq)
    show Win p e below _ s₁ (mkF mt 22 #[.val (.ref b), .val (.int c), .val (.int (0 : Int32)), .val (.int (15 : Int32)), .val (.int (c.toInt8.toInt32)), .val (.int (0 : Int32))] [])
    refine Win.st ?_ (fun tq kq => XS.iload X0.here hx rfl (hb hby d_jdk_43_method_23_22) rfl kq)
    show Win p e below _ s₁ (mkF mt 24 #[.val (.ref b), .val (.int c), .val (.int (0 : Int32)), .val (.int (15 : Int32)), .val (.int (c.toInt8.toInt32)), .val (.int (0 : Int32))] [(.int (0 : Int32))])
    exact Win.ret X0 hx hlk e0 hrt rfl (Or.inl ⟨rfl, Or.inl rfl, _, rfl⟩) (hb hby d_jdk_43_method_23_24) (by decide) (by decide) ⟨_, rfl, N0, rfl, ⟨fun q => absurd q (by decide), fun q => absurd (own_bk hcB ⟨by decide, by decide⟩ hc19 (by decide)) (q.1)⟩⟩
  · refine Win.st ?_ (fun tq kq => XS.icmpYes X0.here hx rfl (pc0 := 19) (pc' := 25) rfl (hb hby d_jdk_43_method_23_19) rfl (feq hc19).2 (by decide) (by decide) kq)
    show Win p e below _ s₁ (mkF mt 25 #[.val (.ref b), .val (.int c), .val (.int (0 : Int32)), .val (.int (15 : Int32)), .val (.int (c.toInt8.toInt32)), .val (.int (0 : Int32))] [])
    refine Win.st ?_ (fun tq kq => XS.iinc X0.here hx rfl (hb hby d_jdk_43_method_23_25) rfl (l' := #[.val (.ref b), .val (.int c), .val (.int (0 : Int32)), .val (.int (15 : Int32)), .val (.int (c.toInt8.toInt32)), .val (.int (1 : Int32))]) rfl kq)
    show Win p e below _ s₁ (mkF mt 28 #[.val (.ref b), .val (.int c), .val (.int (0 : Int32)), .val (.int (15 : Int32)), .val (.int (c.toInt8.toInt32)), .val (.int (1 : Int32))] [])
    refine Win.st ?_ (fun tq kq => XS.goto X0.here hx rfl (pc0 := 28) (pc' := 7) rfl (hb hby d_jdk_43_method_23_28) (by decide) (by decide) kq)
    show Win p e below _ s₁ (mkF mt 7 #[.val (.ref b), .val (.int c), .val (.int (0 : Int32)), .val (.int (15 : Int32)), .val (.int (c.toInt8.toInt32)), .val (.int (1 : Int32))] [])
    refine Win.st ?_ (fun tq kq => XS.iload X0.here hx rfl (hb hby d_jdk_43_method_23_7) rfl kq)
    show Win p e below _ s₁ (mkF mt 9 #[.val (.ref b), .val (.int c), .val (.int (0 : Int32)), .val (.int (15 : Int32)), .val (.int (c.toInt8.toInt32)), .val (.int (1 : Int32))] [(.int (1 : Int32))])
    refine Win.st ?_ (fun tq kq => XS.iloadN X0.here hx rfl (hb hby d_jdk_43_method_23_9) rfl kq)
    show Win p e below _ s₁ (mkF mt 10 #[.val (.ref b), .val (.int c), .val (.int (0 : Int32)), .val (.int (15 : Int32)), .val (.int (c.toInt8.toInt32)), .val (.int (1 : Int32))] [(.int (15 : Int32)), (.int (1 : Int32))])
    refine Win.st ?_ (fun tq kq => XS.icmpNo X0.here hx rfl (hb hby d_jdk_43_method_23_10) rfl (tlt (by decide : (1 : Int32) < (15 : Int32))).2.1 kq)
    show Win p e below _ s₁ (mkF mt 13 #[.val (.ref b), .val (.int c), .val (.int (0 : Int32)), .val (.int (15 : Int32)), .val (.int (c.toInt8.toInt32)), .val (.int (1 : Int32))] [])
    refine Win.st ?_ (fun tq kq => XS.aloadN X0.here hx rfl (hb hby d_jdk_43_method_23_13) rfl rfl kq)
    show Win p e below _ s₁ (mkF mt 14 #[.val (.ref b), .val (.int c), .val (.int (0 : Int32)), .val (.int (15 : Int32)), .val (.int (c.toInt8.toInt32)), .val (.int (1 : Int32))] [(.ref b)])
    refine Win.st ?_ (fun tq kq => XS.iload X0.here hx rfl (hb hby d_jdk_43_method_23_14) rfl kq)
    show Win p e below _ s₁ (mkF mt 16 #[.val (.ref b), .val (.int c), .val (.int (0 : Int32)), .val (.int (15 : Int32)), .val (.int (c.toInt8.toInt32)), .val (.int (1 : Int32))] [(.int (1 : Int32)), (.ref b)])
    refine Win.st ?_ (own_bald (g := (mkF mt 16 #[.val (.ref b), .val (.int c), .val (.int (0 : Int32)), .val (.int (15 : Int32)), .val (.int (c.toInt8.toInt32)), .val (.int (1 : Int32))] [(.int (1 : Int32)), (.ref b)])) X0 hx hZ e0 VB (j := (1 : Int32)) (v := (.int (35 : Int32))) (by decide) (by decide) rfl rfl rfl (hb hby d_jdk_43_method_23_16))
    show Win p e below _ s₁ (mkF mt 17 #[.val (.ref b), .val (.int c), .val (.int (0 : Int32)), .val (.int (15 : Int32)), .val (.int (c.toInt8.toInt32)), .val (.int (1 : Int32))] [(.int (35 : Int32))])
    refine Win.st ?_ (fun tq kq => XS.iload X0.here hx rfl (hb hby d_jdk_43_method_23_17) rfl kq)
    show Win p e below _ s₁ (mkF mt 19 #[.val (.ref b), .val (.int c), .val (.int (0 : Int32)), .val (.int (15 : Int32)), .val (.int (c.toInt8.toInt32)), .val (.int (1 : Int32))] [(.int (c.toInt8.toInt32)), (.int (35 : Int32))])
    by_cases hc19_18 : (35 : Int32) = (c.toInt8.toInt32)
    · refine Win.st ?_ (fun tq kq => XS.icmpNo X0.here hx rfl (hb hby d_jdk_43_method_23_19) rfl (teq hc19_18).2 kq)
      show Win p e below _ s₁ (mkF mt 22 #[.val (.ref b), .val (.int c), .val (.int (0 : Int32)), .val (.int (15 : Int32)), .val (.int (c.toInt8.toInt32)), .val (.int (1 : Int32))] [])
      refine Win.st ?_ (fun tq kq => XS.iload X0.here hx rfl (hb hby d_jdk_43_method_23_22) rfl kq)
      show Win p e below _ s₁ (mkF mt 24 #[.val (.ref b), .val (.int c), .val (.int (0 : Int32)), .val (.int (15 : Int32)), .val (.int (c.toInt8.toInt32)), .val (.int (1 : Int32))] [(.int (1 : Int32))])
      exact Win.ret X0 hx hlk e0 hrt rfl (Or.inl ⟨rfl, Or.inl rfl, _, rfl⟩) (hb hby d_jdk_43_method_23_24) (by decide) (by decide) ⟨_, rfl, N0, rfl, ⟨fun q => absurd q (by decide), fun q => absurd (own_bk hcB ⟨by decide, by decide⟩ hc19_18 (by decide)) (q.2.1)⟩⟩
    · refine Win.st ?_ (fun tq kq => XS.icmpYes X0.here hx rfl (pc0 := 19) (pc' := 25) rfl (hb hby d_jdk_43_method_23_19) rfl (feq hc19_18).2 (by decide) (by decide) kq)
      show Win p e below _ s₁ (mkF mt 25 #[.val (.ref b), .val (.int c), .val (.int (0 : Int32)), .val (.int (15 : Int32)), .val (.int (c.toInt8.toInt32)), .val (.int (1 : Int32))] [])
      refine Win.st ?_ (fun tq kq => XS.iinc X0.here hx rfl (hb hby d_jdk_43_method_23_25) rfl (l' := #[.val (.ref b), .val (.int c), .val (.int (0 : Int32)), .val (.int (15 : Int32)), .val (.int (c.toInt8.toInt32)), .val (.int (2 : Int32))]) rfl kq)
      show Win p e below _ s₁ (mkF mt 28 #[.val (.ref b), .val (.int c), .val (.int (0 : Int32)), .val (.int (15 : Int32)), .val (.int (c.toInt8.toInt32)), .val (.int (2 : Int32))] [])
      refine Win.st ?_ (fun tq kq => XS.goto X0.here hx rfl (pc0 := 28) (pc' := 7) rfl (hb hby d_jdk_43_method_23_28) (by decide) (by decide) kq)
      show Win p e below _ s₁ (mkF mt 7 #[.val (.ref b), .val (.int c), .val (.int (0 : Int32)), .val (.int (15 : Int32)), .val (.int (c.toInt8.toInt32)), .val (.int (2 : Int32))] [])
      refine Win.st ?_ (fun tq kq => XS.iload X0.here hx rfl (hb hby d_jdk_43_method_23_7) rfl kq)
      show Win p e below _ s₁ (mkF mt 9 #[.val (.ref b), .val (.int c), .val (.int (0 : Int32)), .val (.int (15 : Int32)), .val (.int (c.toInt8.toInt32)), .val (.int (2 : Int32))] [(.int (2 : Int32))])
      refine Win.st ?_ (fun tq kq => XS.iloadN X0.here hx rfl (hb hby d_jdk_43_method_23_9) rfl kq)
      show Win p e below _ s₁ (mkF mt 10 #[.val (.ref b), .val (.int c), .val (.int (0 : Int32)), .val (.int (15 : Int32)), .val (.int (c.toInt8.toInt32)), .val (.int (2 : Int32))] [(.int (15 : Int32)), (.int (2 : Int32))])
      refine Win.st ?_ (fun tq kq => XS.icmpNo X0.here hx rfl (hb hby d_jdk_43_method_23_10) rfl (tlt (by decide : (2 : Int32) < (15 : Int32))).2.1 kq)
      show Win p e below _ s₁ (mkF mt 13 #[.val (.ref b), .val (.int c), .val (.int (0 : Int32)), .val (.int (15 : Int32)), .val (.int (c.toInt8.toInt32)), .val (.int (2 : Int32))] [])
      refine Win.st ?_ (fun tq kq => XS.aloadN X0.here hx rfl (hb hby d_jdk_43_method_23_13) rfl rfl kq)
      show Win p e below _ s₁ (mkF mt 14 #[.val (.ref b), .val (.int c), .val (.int (0 : Int32)), .val (.int (15 : Int32)), .val (.int (c.toInt8.toInt32)), .val (.int (2 : Int32))] [(.ref b)])
      refine Win.st ?_ (fun tq kq => XS.iload X0.here hx rfl (hb hby d_jdk_43_method_23_14) rfl kq)
      show Win p e below _ s₁ (mkF mt 16 #[.val (.ref b), .val (.int c), .val (.int (0 : Int32)), .val (.int (15 : Int32)), .val (.int (c.toInt8.toInt32)), .val (.int (2 : Int32))] [(.int (2 : Int32)), (.ref b)])
      refine Win.st ?_ (own_bald (g := (mkF mt 16 #[.val (.ref b), .val (.int c), .val (.int (0 : Int32)), .val (.int (15 : Int32)), .val (.int (c.toInt8.toInt32)), .val (.int (2 : Int32))] [(.int (2 : Int32)), (.ref b)])) X0 hx hZ e0 VB (j := (2 : Int32)) (v := (.int (36 : Int32))) (by decide) (by decide) rfl rfl rfl (hb hby d_jdk_43_method_23_16))
      show Win p e below _ s₁ (mkF mt 17 #[.val (.ref b), .val (.int c), .val (.int (0 : Int32)), .val (.int (15 : Int32)), .val (.int (c.toInt8.toInt32)), .val (.int (2 : Int32))] [(.int (36 : Int32))])
      refine Win.st ?_ (fun tq kq => XS.iload X0.here hx rfl (hb hby d_jdk_43_method_23_17) rfl kq)
      show Win p e below _ s₁ (mkF mt 19 #[.val (.ref b), .val (.int c), .val (.int (0 : Int32)), .val (.int (15 : Int32)), .val (.int (c.toInt8.toInt32)), .val (.int (2 : Int32))] [(.int (c.toInt8.toInt32)), (.int (36 : Int32))])
      by_cases hc19_19 : (36 : Int32) = (c.toInt8.toInt32)
      · refine Win.st ?_ (fun tq kq => XS.icmpNo X0.here hx rfl (hb hby d_jdk_43_method_23_19) rfl (teq hc19_19).2 kq)
        show Win p e below _ s₁ (mkF mt 22 #[.val (.ref b), .val (.int c), .val (.int (0 : Int32)), .val (.int (15 : Int32)), .val (.int (c.toInt8.toInt32)), .val (.int (2 : Int32))] [])
        refine Win.st ?_ (fun tq kq => XS.iload X0.here hx rfl (hb hby d_jdk_43_method_23_22) rfl kq)
        show Win p e below _ s₁ (mkF mt 24 #[.val (.ref b), .val (.int c), .val (.int (0 : Int32)), .val (.int (15 : Int32)), .val (.int (c.toInt8.toInt32)), .val (.int (2 : Int32))] [(.int (2 : Int32))])
        exact Win.ret X0 hx hlk e0 hrt rfl (Or.inl ⟨rfl, Or.inl rfl, _, rfl⟩) (hb hby d_jdk_43_method_23_24) (by decide) (by decide) ⟨_, rfl, N0, rfl, ⟨fun q => absurd q (by decide), fun q => absurd (own_bk hcB ⟨by decide, by decide⟩ hc19_19 (by decide)) (q.2.2.1)⟩⟩
      · refine Win.st ?_ (fun tq kq => XS.icmpYes X0.here hx rfl (pc0 := 19) (pc' := 25) rfl (hb hby d_jdk_43_method_23_19) rfl (feq hc19_19).2 (by decide) (by decide) kq)
        show Win p e below _ s₁ (mkF mt 25 #[.val (.ref b), .val (.int c), .val (.int (0 : Int32)), .val (.int (15 : Int32)), .val (.int (c.toInt8.toInt32)), .val (.int (2 : Int32))] [])
        refine Win.st ?_ (fun tq kq => XS.iinc X0.here hx rfl (hb hby d_jdk_43_method_23_25) rfl (l' := #[.val (.ref b), .val (.int c), .val (.int (0 : Int32)), .val (.int (15 : Int32)), .val (.int (c.toInt8.toInt32)), .val (.int (3 : Int32))]) rfl kq)
        show Win p e below _ s₁ (mkF mt 28 #[.val (.ref b), .val (.int c), .val (.int (0 : Int32)), .val (.int (15 : Int32)), .val (.int (c.toInt8.toInt32)), .val (.int (3 : Int32))] [])
        refine Win.st ?_ (fun tq kq => XS.goto X0.here hx rfl (pc0 := 28) (pc' := 7) rfl (hb hby d_jdk_43_method_23_28) (by decide) (by decide) kq)
        show Win p e below _ s₁ (mkF mt 7 #[.val (.ref b), .val (.int c), .val (.int (0 : Int32)), .val (.int (15 : Int32)), .val (.int (c.toInt8.toInt32)), .val (.int (3 : Int32))] [])
        refine Win.st ?_ (fun tq kq => XS.iload X0.here hx rfl (hb hby d_jdk_43_method_23_7) rfl kq)
        show Win p e below _ s₁ (mkF mt 9 #[.val (.ref b), .val (.int c), .val (.int (0 : Int32)), .val (.int (15 : Int32)), .val (.int (c.toInt8.toInt32)), .val (.int (3 : Int32))] [(.int (3 : Int32))])
        refine Win.st ?_ (fun tq kq => XS.iloadN X0.here hx rfl (hb hby d_jdk_43_method_23_9) rfl kq)
        show Win p e below _ s₁ (mkF mt 10 #[.val (.ref b), .val (.int c), .val (.int (0 : Int32)), .val (.int (15 : Int32)), .val (.int (c.toInt8.toInt32)), .val (.int (3 : Int32))] [(.int (15 : Int32)), (.int (3 : Int32))])
        refine Win.st ?_ (fun tq kq => XS.icmpNo X0.here hx rfl (hb hby d_jdk_43_method_23_10) rfl (tlt (by decide : (3 : Int32) < (15 : Int32))).2.1 kq)
        show Win p e below _ s₁ (mkF mt 13 #[.val (.ref b), .val (.int c), .val (.int (0 : Int32)), .val (.int (15 : Int32)), .val (.int (c.toInt8.toInt32)), .val (.int (3 : Int32))] [])
        refine Win.st ?_ (fun tq kq => XS.aloadN X0.here hx rfl (hb hby d_jdk_43_method_23_13) rfl rfl kq)
        show Win p e below _ s₁ (mkF mt 14 #[.val (.ref b), .val (.int c), .val (.int (0 : Int32)), .val (.int (15 : Int32)), .val (.int (c.toInt8.toInt32)), .val (.int (3 : Int32))] [(.ref b)])
        refine Win.st ?_ (fun tq kq => XS.iload X0.here hx rfl (hb hby d_jdk_43_method_23_14) rfl kq)
        show Win p e below _ s₁ (mkF mt 16 #[.val (.ref b), .val (.int c), .val (.int (0 : Int32)), .val (.int (15 : Int32)), .val (.int (c.toInt8.toInt32)), .val (.int (3 : Int32))] [(.int (3 : Int32)), (.ref b)])
        refine Win.st ?_ (own_bald (g := (mkF mt 16 #[.val (.ref b), .val (.int c), .val (.int (0 : Int32)), .val (.int (15 : Int32)), .val (.int (c.toInt8.toInt32)), .val (.int (3 : Int32))] [(.int (3 : Int32)), (.ref b)])) X0 hx hZ e0 VB (j := (3 : Int32)) (v := (.int (37 : Int32))) (by decide) (by decide) rfl rfl rfl (hb hby d_jdk_43_method_23_16))
        show Win p e below _ s₁ (mkF mt 17 #[.val (.ref b), .val (.int c), .val (.int (0 : Int32)), .val (.int (15 : Int32)), .val (.int (c.toInt8.toInt32)), .val (.int (3 : Int32))] [(.int (37 : Int32))])
        refine Win.st ?_ (fun tq kq => XS.iload X0.here hx rfl (hb hby d_jdk_43_method_23_17) rfl kq)
        show Win p e below _ s₁ (mkF mt 19 #[.val (.ref b), .val (.int c), .val (.int (0 : Int32)), .val (.int (15 : Int32)), .val (.int (c.toInt8.toInt32)), .val (.int (3 : Int32))] [(.int (c.toInt8.toInt32)), (.int (37 : Int32))])
        by_cases hc19_20 : (37 : Int32) = (c.toInt8.toInt32)
        · refine Win.st ?_ (fun tq kq => XS.icmpNo X0.here hx rfl (hb hby d_jdk_43_method_23_19) rfl (teq hc19_20).2 kq)
          show Win p e below _ s₁ (mkF mt 22 #[.val (.ref b), .val (.int c), .val (.int (0 : Int32)), .val (.int (15 : Int32)), .val (.int (c.toInt8.toInt32)), .val (.int (3 : Int32))] [])
          refine Win.st ?_ (fun tq kq => XS.iload X0.here hx rfl (hb hby d_jdk_43_method_23_22) rfl kq)
          show Win p e below _ s₁ (mkF mt 24 #[.val (.ref b), .val (.int c), .val (.int (0 : Int32)), .val (.int (15 : Int32)), .val (.int (c.toInt8.toInt32)), .val (.int (3 : Int32))] [(.int (3 : Int32))])
          exact Win.ret X0 hx hlk e0 hrt rfl (Or.inl ⟨rfl, Or.inl rfl, _, rfl⟩) (hb hby d_jdk_43_method_23_24) (by decide) (by decide) ⟨_, rfl, N0, rfl, ⟨fun q => absurd q (by decide), fun q => absurd (own_bk hcB ⟨by decide, by decide⟩ hc19_20 (by decide)) (q.2.2.2.1)⟩⟩
        · refine Win.st ?_ (fun tq kq => XS.icmpYes X0.here hx rfl (pc0 := 19) (pc' := 25) rfl (hb hby d_jdk_43_method_23_19) rfl (feq hc19_20).2 (by decide) (by decide) kq)
          show Win p e below _ s₁ (mkF mt 25 #[.val (.ref b), .val (.int c), .val (.int (0 : Int32)), .val (.int (15 : Int32)), .val (.int (c.toInt8.toInt32)), .val (.int (3 : Int32))] [])
          refine Win.st ?_ (fun tq kq => XS.iinc X0.here hx rfl (hb hby d_jdk_43_method_23_25) rfl (l' := #[.val (.ref b), .val (.int c), .val (.int (0 : Int32)), .val (.int (15 : Int32)), .val (.int (c.toInt8.toInt32)), .val (.int (4 : Int32))]) rfl kq)
          show Win p e below _ s₁ (mkF mt 28 #[.val (.ref b), .val (.int c), .val (.int (0 : Int32)), .val (.int (15 : Int32)), .val (.int (c.toInt8.toInt32)), .val (.int (4 : Int32))] [])
          refine Win.st ?_ (fun tq kq => XS.goto X0.here hx rfl (pc0 := 28) (pc' := 7) rfl (hb hby d_jdk_43_method_23_28) (by decide) (by decide) kq)
          show Win p e below _ s₁ (mkF mt 7 #[.val (.ref b), .val (.int c), .val (.int (0 : Int32)), .val (.int (15 : Int32)), .val (.int (c.toInt8.toInt32)), .val (.int (4 : Int32))] [])
          refine Win.st ?_ (fun tq kq => XS.iload X0.here hx rfl (hb hby d_jdk_43_method_23_7) rfl kq)
          show Win p e below _ s₁ (mkF mt 9 #[.val (.ref b), .val (.int c), .val (.int (0 : Int32)), .val (.int (15 : Int32)), .val (.int (c.toInt8.toInt32)), .val (.int (4 : Int32))] [(.int (4 : Int32))])
          refine Win.st ?_ (fun tq kq => XS.iloadN X0.here hx rfl (hb hby d_jdk_43_method_23_9) rfl kq)
          show Win p e below _ s₁ (mkF mt 10 #[.val (.ref b), .val (.int c), .val (.int (0 : Int32)), .val (.int (15 : Int32)), .val (.int (c.toInt8.toInt32)), .val (.int (4 : Int32))] [(.int (15 : Int32)), (.int (4 : Int32))])
          refine Win.st ?_ (fun tq kq => XS.icmpNo X0.here hx rfl (hb hby d_jdk_43_method_23_10) rfl (tlt (by decide : (4 : Int32) < (15 : Int32))).2.1 kq)
          show Win p e below _ s₁ (mkF mt 13 #[.val (.ref b), .val (.int c), .val (.int (0 : Int32)), .val (.int (15 : Int32)), .val (.int (c.toInt8.toInt32)), .val (.int (4 : Int32))] [])
          refine Win.st ?_ (fun tq kq => XS.aloadN X0.here hx rfl (hb hby d_jdk_43_method_23_13) rfl rfl kq)
          show Win p e below _ s₁ (mkF mt 14 #[.val (.ref b), .val (.int c), .val (.int (0 : Int32)), .val (.int (15 : Int32)), .val (.int (c.toInt8.toInt32)), .val (.int (4 : Int32))] [(.ref b)])
          refine Win.st ?_ (fun tq kq => XS.iload X0.here hx rfl (hb hby d_jdk_43_method_23_14) rfl kq)
          show Win p e below _ s₁ (mkF mt 16 #[.val (.ref b), .val (.int c), .val (.int (0 : Int32)), .val (.int (15 : Int32)), .val (.int (c.toInt8.toInt32)), .val (.int (4 : Int32))] [(.int (4 : Int32)), (.ref b)])
          refine Win.st ?_ (own_bald (g := (mkF mt 16 #[.val (.ref b), .val (.int c), .val (.int (0 : Int32)), .val (.int (15 : Int32)), .val (.int (c.toInt8.toInt32)), .val (.int (4 : Int32))] [(.int (4 : Int32)), (.ref b)])) X0 hx hZ e0 VB (j := (4 : Int32)) (v := (.int (38 : Int32))) (by decide) (by decide) rfl rfl rfl (hb hby d_jdk_43_method_23_16))
          show Win p e below _ s₁ (mkF mt 17 #[.val (.ref b), .val (.int c), .val (.int (0 : Int32)), .val (.int (15 : Int32)), .val (.int (c.toInt8.toInt32)), .val (.int (4 : Int32))] [(.int (38 : Int32))])
          refine Win.st ?_ (fun tq kq => XS.iload X0.here hx rfl (hb hby d_jdk_43_method_23_17) rfl kq)
          show Win p e below _ s₁ (mkF mt 19 #[.val (.ref b), .val (.int c), .val (.int (0 : Int32)), .val (.int (15 : Int32)), .val (.int (c.toInt8.toInt32)), .val (.int (4 : Int32))] [(.int (c.toInt8.toInt32)), (.int (38 : Int32))])
          by_cases hc19_21 : (38 : Int32) = (c.toInt8.toInt32)
          · refine Win.st ?_ (fun tq kq => XS.icmpNo X0.here hx rfl (hb hby d_jdk_43_method_23_19) rfl (teq hc19_21).2 kq)
            show Win p e below _ s₁ (mkF mt 22 #[.val (.ref b), .val (.int c), .val (.int (0 : Int32)), .val (.int (15 : Int32)), .val (.int (c.toInt8.toInt32)), .val (.int (4 : Int32))] [])
            refine Win.st ?_ (fun tq kq => XS.iload X0.here hx rfl (hb hby d_jdk_43_method_23_22) rfl kq)
            show Win p e below _ s₁ (mkF mt 24 #[.val (.ref b), .val (.int c), .val (.int (0 : Int32)), .val (.int (15 : Int32)), .val (.int (c.toInt8.toInt32)), .val (.int (4 : Int32))] [(.int (4 : Int32))])
            exact Win.ret X0 hx hlk e0 hrt rfl (Or.inl ⟨rfl, Or.inl rfl, _, rfl⟩) (hb hby d_jdk_43_method_23_24) (by decide) (by decide) ⟨_, rfl, N0, rfl, ⟨fun q => absurd q (by decide), fun q => absurd (own_bk hcB ⟨by decide, by decide⟩ hc19_21 (by decide)) (q.2.2.2.2.1)⟩⟩
          · refine Win.st ?_ (fun tq kq => XS.icmpYes X0.here hx rfl (pc0 := 19) (pc' := 25) rfl (hb hby d_jdk_43_method_23_19) rfl (feq hc19_21).2 (by decide) (by decide) kq)
            show Win p e below _ s₁ (mkF mt 25 #[.val (.ref b), .val (.int c), .val (.int (0 : Int32)), .val (.int (15 : Int32)), .val (.int (c.toInt8.toInt32)), .val (.int (4 : Int32))] [])
            refine Win.st ?_ (fun tq kq => XS.iinc X0.here hx rfl (hb hby d_jdk_43_method_23_25) rfl (l' := #[.val (.ref b), .val (.int c), .val (.int (0 : Int32)), .val (.int (15 : Int32)), .val (.int (c.toInt8.toInt32)), .val (.int (5 : Int32))]) rfl kq)
            show Win p e below _ s₁ (mkF mt 28 #[.val (.ref b), .val (.int c), .val (.int (0 : Int32)), .val (.int (15 : Int32)), .val (.int (c.toInt8.toInt32)), .val (.int (5 : Int32))] [])
            refine Win.st ?_ (fun tq kq => XS.goto X0.here hx rfl (pc0 := 28) (pc' := 7) rfl (hb hby d_jdk_43_method_23_28) (by decide) (by decide) kq)
            show Win p e below _ s₁ (mkF mt 7 #[.val (.ref b), .val (.int c), .val (.int (0 : Int32)), .val (.int (15 : Int32)), .val (.int (c.toInt8.toInt32)), .val (.int (5 : Int32))] [])
            refine Win.st ?_ (fun tq kq => XS.iload X0.here hx rfl (hb hby d_jdk_43_method_23_7) rfl kq)
            show Win p e below _ s₁ (mkF mt 9 #[.val (.ref b), .val (.int c), .val (.int (0 : Int32)), .val (.int (15 : Int32)), .val (.int (c.toInt8.toInt32)), .val (.int (5 : Int32))] [(.int (5 : Int32))])
            refine Win.st ?_ (fun tq kq => XS.iloadN X0.here hx rfl (hb hby d_jdk_43_method_23_9) rfl kq)
            show Win p e below _ s₁ (mkF mt 10 #[.val (.ref b), .val (.int c), .val (.int (0 : Int32)), .val (.int (15 : Int32)), .val (.int (c.toInt8.toInt32)), .val (.int (5 : Int32))] [(.int (15 : Int32)), (.int (5 : Int32))])
            refine Win.st ?_ (fun tq kq => XS.icmpNo X0.here hx rfl (hb hby d_jdk_43_method_23_10) rfl (tlt (by decide : (5 : Int32) < (15 : Int32))).2.1 kq)
            show Win p e below _ s₁ (mkF mt 13 #[.val (.ref b), .val (.int c), .val (.int (0 : Int32)), .val (.int (15 : Int32)), .val (.int (c.toInt8.toInt32)), .val (.int (5 : Int32))] [])
            refine Win.st ?_ (fun tq kq => XS.aloadN X0.here hx rfl (hb hby d_jdk_43_method_23_13) rfl rfl kq)
            show Win p e below _ s₁ (mkF mt 14 #[.val (.ref b), .val (.int c), .val (.int (0 : Int32)), .val (.int (15 : Int32)), .val (.int (c.toInt8.toInt32)), .val (.int (5 : Int32))] [(.ref b)])
            refine Win.st ?_ (fun tq kq => XS.iload X0.here hx rfl (hb hby d_jdk_43_method_23_14) rfl kq)
            show Win p e below _ s₁ (mkF mt 16 #[.val (.ref b), .val (.int c), .val (.int (0 : Int32)), .val (.int (15 : Int32)), .val (.int (c.toInt8.toInt32)), .val (.int (5 : Int32))] [(.int (5 : Int32)), (.ref b)])
            refine Win.st ?_ (own_bald (g := (mkF mt 16 #[.val (.ref b), .val (.int c), .val (.int (0 : Int32)), .val (.int (15 : Int32)), .val (.int (c.toInt8.toInt32)), .val (.int (5 : Int32))] [(.int (5 : Int32)), (.ref b)])) X0 hx hZ e0 VB (j := (5 : Int32)) (v := (.int (39 : Int32))) (by decide) (by decide) rfl rfl rfl (hb hby d_jdk_43_method_23_16))
            show Win p e below _ s₁ (mkF mt 17 #[.val (.ref b), .val (.int c), .val (.int (0 : Int32)), .val (.int (15 : Int32)), .val (.int (c.toInt8.toInt32)), .val (.int (5 : Int32))] [(.int (39 : Int32))])
            refine Win.st ?_ (fun tq kq => XS.iload X0.here hx rfl (hb hby d_jdk_43_method_23_17) rfl kq)
            show Win p e below _ s₁ (mkF mt 19 #[.val (.ref b), .val (.int c), .val (.int (0 : Int32)), .val (.int (15 : Int32)), .val (.int (c.toInt8.toInt32)), .val (.int (5 : Int32))] [(.int (c.toInt8.toInt32)), (.int (39 : Int32))])
            by_cases hc19_22 : (39 : Int32) = (c.toInt8.toInt32)
            · refine Win.st ?_ (fun tq kq => XS.icmpNo X0.here hx rfl (hb hby d_jdk_43_method_23_19) rfl (teq hc19_22).2 kq)
              show Win p e below _ s₁ (mkF mt 22 #[.val (.ref b), .val (.int c), .val (.int (0 : Int32)), .val (.int (15 : Int32)), .val (.int (c.toInt8.toInt32)), .val (.int (5 : Int32))] [])
              refine Win.st ?_ (fun tq kq => XS.iload X0.here hx rfl (hb hby d_jdk_43_method_23_22) rfl kq)
              show Win p e below _ s₁ (mkF mt 24 #[.val (.ref b), .val (.int c), .val (.int (0 : Int32)), .val (.int (15 : Int32)), .val (.int (c.toInt8.toInt32)), .val (.int (5 : Int32))] [(.int (5 : Int32))])
              exact Win.ret X0 hx hlk e0 hrt rfl (Or.inl ⟨rfl, Or.inl rfl, _, rfl⟩) (hb hby d_jdk_43_method_23_24) (by decide) (by decide) ⟨_, rfl, N0, rfl, ⟨fun q => absurd q (by decide), fun q => absurd (own_bk hcB ⟨by decide, by decide⟩ hc19_22 (by decide)) (q.2.2.2.2.2.1)⟩⟩
            · refine Win.st ?_ (fun tq kq => XS.icmpYes X0.here hx rfl (pc0 := 19) (pc' := 25) rfl (hb hby d_jdk_43_method_23_19) rfl (feq hc19_22).2 (by decide) (by decide) kq)
              show Win p e below _ s₁ (mkF mt 25 #[.val (.ref b), .val (.int c), .val (.int (0 : Int32)), .val (.int (15 : Int32)), .val (.int (c.toInt8.toInt32)), .val (.int (5 : Int32))] [])
              refine Win.st ?_ (fun tq kq => XS.iinc X0.here hx rfl (hb hby d_jdk_43_method_23_25) rfl (l' := #[.val (.ref b), .val (.int c), .val (.int (0 : Int32)), .val (.int (15 : Int32)), .val (.int (c.toInt8.toInt32)), .val (.int (6 : Int32))]) rfl kq)
              show Win p e below _ s₁ (mkF mt 28 #[.val (.ref b), .val (.int c), .val (.int (0 : Int32)), .val (.int (15 : Int32)), .val (.int (c.toInt8.toInt32)), .val (.int (6 : Int32))] [])
              refine Win.st ?_ (fun tq kq => XS.goto X0.here hx rfl (pc0 := 28) (pc' := 7) rfl (hb hby d_jdk_43_method_23_28) (by decide) (by decide) kq)
              show Win p e below _ s₁ (mkF mt 7 #[.val (.ref b), .val (.int c), .val (.int (0 : Int32)), .val (.int (15 : Int32)), .val (.int (c.toInt8.toInt32)), .val (.int (6 : Int32))] [])
              refine Win.st ?_ (fun tq kq => XS.iload X0.here hx rfl (hb hby d_jdk_43_method_23_7) rfl kq)
              show Win p e below _ s₁ (mkF mt 9 #[.val (.ref b), .val (.int c), .val (.int (0 : Int32)), .val (.int (15 : Int32)), .val (.int (c.toInt8.toInt32)), .val (.int (6 : Int32))] [(.int (6 : Int32))])
              refine Win.st ?_ (fun tq kq => XS.iloadN X0.here hx rfl (hb hby d_jdk_43_method_23_9) rfl kq)
              show Win p e below _ s₁ (mkF mt 10 #[.val (.ref b), .val (.int c), .val (.int (0 : Int32)), .val (.int (15 : Int32)), .val (.int (c.toInt8.toInt32)), .val (.int (6 : Int32))] [(.int (15 : Int32)), (.int (6 : Int32))])
              refine Win.st ?_ (fun tq kq => XS.icmpNo X0.here hx rfl (hb hby d_jdk_43_method_23_10) rfl (tlt (by decide : (6 : Int32) < (15 : Int32))).2.1 kq)
              show Win p e below _ s₁ (mkF mt 13 #[.val (.ref b), .val (.int c), .val (.int (0 : Int32)), .val (.int (15 : Int32)), .val (.int (c.toInt8.toInt32)), .val (.int (6 : Int32))] [])
              refine Win.st ?_ (fun tq kq => XS.aloadN X0.here hx rfl (hb hby d_jdk_43_method_23_13) rfl rfl kq)
              show Win p e below _ s₁ (mkF mt 14 #[.val (.ref b), .val (.int c), .val (.int (0 : Int32)), .val (.int (15 : Int32)), .val (.int (c.toInt8.toInt32)), .val (.int (6 : Int32))] [(.ref b)])
              refine Win.st ?_ (fun tq kq => XS.iload X0.here hx rfl (hb hby d_jdk_43_method_23_14) rfl kq)
              show Win p e below _ s₁ (mkF mt 16 #[.val (.ref b), .val (.int c), .val (.int (0 : Int32)), .val (.int (15 : Int32)), .val (.int (c.toInt8.toInt32)), .val (.int (6 : Int32))] [(.int (6 : Int32)), (.ref b)])
              refine Win.st ?_ (own_bald (g := (mkF mt 16 #[.val (.ref b), .val (.int c), .val (.int (0 : Int32)), .val (.int (15 : Int32)), .val (.int (c.toInt8.toInt32)), .val (.int (6 : Int32))] [(.int (6 : Int32)), (.ref b)])) X0 hx hZ e0 VB (j := (6 : Int32)) (v := (.int (42 : Int32))) (by decide) (by decide) rfl rfl rfl (hb hby d_jdk_43_method_23_16))
              show Win p e below _ s₁ (mkF mt 17 #[.val (.ref b), .val (.int c), .val (.int (0 : Int32)), .val (.int (15 : Int32)), .val (.int (c.toInt8.toInt32)), .val (.int (6 : Int32))] [(.int (42 : Int32))])
              refine Win.st ?_ (fun tq kq => XS.iload X0.here hx rfl (hb hby d_jdk_43_method_23_17) rfl kq)
              show Win p e below _ s₁ (mkF mt 19 #[.val (.ref b), .val (.int c), .val (.int (0 : Int32)), .val (.int (15 : Int32)), .val (.int (c.toInt8.toInt32)), .val (.int (6 : Int32))] [(.int (c.toInt8.toInt32)), (.int (42 : Int32))])
              by_cases hc19_23 : (42 : Int32) = (c.toInt8.toInt32)
              · refine Win.st ?_ (fun tq kq => XS.icmpNo X0.here hx rfl (hb hby d_jdk_43_method_23_19) rfl (teq hc19_23).2 kq)
                show Win p e below _ s₁ (mkF mt 22 #[.val (.ref b), .val (.int c), .val (.int (0 : Int32)), .val (.int (15 : Int32)), .val (.int (c.toInt8.toInt32)), .val (.int (6 : Int32))] [])
                refine Win.st ?_ (fun tq kq => XS.iload X0.here hx rfl (hb hby d_jdk_43_method_23_22) rfl kq)
                show Win p e below _ s₁ (mkF mt 24 #[.val (.ref b), .val (.int c), .val (.int (0 : Int32)), .val (.int (15 : Int32)), .val (.int (c.toInt8.toInt32)), .val (.int (6 : Int32))] [(.int (6 : Int32))])
                exact Win.ret X0 hx hlk e0 hrt rfl (Or.inl ⟨rfl, Or.inl rfl, _, rfl⟩) (hb hby d_jdk_43_method_23_24) (by decide) (by decide) ⟨_, rfl, N0, rfl, ⟨fun q => absurd q (by decide), fun q => absurd (own_bk hcB ⟨by decide, by decide⟩ hc19_23 (by decide)) (q.2.2.2.2.2.2.1)⟩⟩
              · refine Win.st ?_ (fun tq kq => XS.icmpYes X0.here hx rfl (pc0 := 19) (pc' := 25) rfl (hb hby d_jdk_43_method_23_19) rfl (feq hc19_23).2 (by decide) (by decide) kq)
                show Win p e below _ s₁ (mkF mt 25 #[.val (.ref b), .val (.int c), .val (.int (0 : Int32)), .val (.int (15 : Int32)), .val (.int (c.toInt8.toInt32)), .val (.int (6 : Int32))] [])
                refine Win.st ?_ (fun tq kq => XS.iinc X0.here hx rfl (hb hby d_jdk_43_method_23_25) rfl (l' := #[.val (.ref b), .val (.int c), .val (.int (0 : Int32)), .val (.int (15 : Int32)), .val (.int (c.toInt8.toInt32)), .val (.int (7 : Int32))]) rfl kq)
                show Win p e below _ s₁ (mkF mt 28 #[.val (.ref b), .val (.int c), .val (.int (0 : Int32)), .val (.int (15 : Int32)), .val (.int (c.toInt8.toInt32)), .val (.int (7 : Int32))] [])
                refine Win.st ?_ (fun tq kq => XS.goto X0.here hx rfl (pc0 := 28) (pc' := 7) rfl (hb hby d_jdk_43_method_23_28) (by decide) (by decide) kq)
                show Win p e below _ s₁ (mkF mt 7 #[.val (.ref b), .val (.int c), .val (.int (0 : Int32)), .val (.int (15 : Int32)), .val (.int (c.toInt8.toInt32)), .val (.int (7 : Int32))] [])
                refine Win.st ?_ (fun tq kq => XS.iload X0.here hx rfl (hb hby d_jdk_43_method_23_7) rfl kq)
                show Win p e below _ s₁ (mkF mt 9 #[.val (.ref b), .val (.int c), .val (.int (0 : Int32)), .val (.int (15 : Int32)), .val (.int (c.toInt8.toInt32)), .val (.int (7 : Int32))] [(.int (7 : Int32))])
                refine Win.st ?_ (fun tq kq => XS.iloadN X0.here hx rfl (hb hby d_jdk_43_method_23_9) rfl kq)
                show Win p e below _ s₁ (mkF mt 10 #[.val (.ref b), .val (.int c), .val (.int (0 : Int32)), .val (.int (15 : Int32)), .val (.int (c.toInt8.toInt32)), .val (.int (7 : Int32))] [(.int (15 : Int32)), (.int (7 : Int32))])
                refine Win.st ?_ (fun tq kq => XS.icmpNo X0.here hx rfl (hb hby d_jdk_43_method_23_10) rfl (tlt (by decide : (7 : Int32) < (15 : Int32))).2.1 kq)
                show Win p e below _ s₁ (mkF mt 13 #[.val (.ref b), .val (.int c), .val (.int (0 : Int32)), .val (.int (15 : Int32)), .val (.int (c.toInt8.toInt32)), .val (.int (7 : Int32))] [])
                refine Win.st ?_ (fun tq kq => XS.aloadN X0.here hx rfl (hb hby d_jdk_43_method_23_13) rfl rfl kq)
                show Win p e below _ s₁ (mkF mt 14 #[.val (.ref b), .val (.int c), .val (.int (0 : Int32)), .val (.int (15 : Int32)), .val (.int (c.toInt8.toInt32)), .val (.int (7 : Int32))] [(.ref b)])
                refine Win.st ?_ (fun tq kq => XS.iload X0.here hx rfl (hb hby d_jdk_43_method_23_14) rfl kq)
                show Win p e below _ s₁ (mkF mt 16 #[.val (.ref b), .val (.int c), .val (.int (0 : Int32)), .val (.int (15 : Int32)), .val (.int (c.toInt8.toInt32)), .val (.int (7 : Int32))] [(.int (7 : Int32)), (.ref b)])
                refine Win.st ?_ (own_bald (g := (mkF mt 16 #[.val (.ref b), .val (.int c), .val (.int (0 : Int32)), .val (.int (15 : Int32)), .val (.int (c.toInt8.toInt32)), .val (.int (7 : Int32))] [(.int (7 : Int32)), (.ref b)])) X0 hx hZ e0 VB (j := (7 : Int32)) (v := (.int (43 : Int32))) (by decide) (by decide) rfl rfl rfl (hb hby d_jdk_43_method_23_16))
                show Win p e below _ s₁ (mkF mt 17 #[.val (.ref b), .val (.int c), .val (.int (0 : Int32)), .val (.int (15 : Int32)), .val (.int (c.toInt8.toInt32)), .val (.int (7 : Int32))] [(.int (43 : Int32))])
                refine Win.st ?_ (fun tq kq => XS.iload X0.here hx rfl (hb hby d_jdk_43_method_23_17) rfl kq)
                show Win p e below _ s₁ (mkF mt 19 #[.val (.ref b), .val (.int c), .val (.int (0 : Int32)), .val (.int (15 : Int32)), .val (.int (c.toInt8.toInt32)), .val (.int (7 : Int32))] [(.int (c.toInt8.toInt32)), (.int (43 : Int32))])
                by_cases hc19_24 : (43 : Int32) = (c.toInt8.toInt32)
                · refine Win.st ?_ (fun tq kq => XS.icmpNo X0.here hx rfl (hb hby d_jdk_43_method_23_19) rfl (teq hc19_24).2 kq)
                  show Win p e below _ s₁ (mkF mt 22 #[.val (.ref b), .val (.int c), .val (.int (0 : Int32)), .val (.int (15 : Int32)), .val (.int (c.toInt8.toInt32)), .val (.int (7 : Int32))] [])
                  refine Win.st ?_ (fun tq kq => XS.iload X0.here hx rfl (hb hby d_jdk_43_method_23_22) rfl kq)
                  show Win p e below _ s₁ (mkF mt 24 #[.val (.ref b), .val (.int c), .val (.int (0 : Int32)), .val (.int (15 : Int32)), .val (.int (c.toInt8.toInt32)), .val (.int (7 : Int32))] [(.int (7 : Int32))])
                  exact Win.ret X0 hx hlk e0 hrt rfl (Or.inl ⟨rfl, Or.inl rfl, _, rfl⟩) (hb hby d_jdk_43_method_23_24) (by decide) (by decide) ⟨_, rfl, N0, rfl, ⟨fun q => absurd q (by decide), fun q => absurd (own_bk hcB ⟨by decide, by decide⟩ hc19_24 (by decide)) (q.2.2.2.2.2.2.2.1)⟩⟩
                · refine Win.st ?_ (fun tq kq => XS.icmpYes X0.here hx rfl (pc0 := 19) (pc' := 25) rfl (hb hby d_jdk_43_method_23_19) rfl (feq hc19_24).2 (by decide) (by decide) kq)
                  show Win p e below _ s₁ (mkF mt 25 #[.val (.ref b), .val (.int c), .val (.int (0 : Int32)), .val (.int (15 : Int32)), .val (.int (c.toInt8.toInt32)), .val (.int (7 : Int32))] [])
                  refine Win.st ?_ (fun tq kq => XS.iinc X0.here hx rfl (hb hby d_jdk_43_method_23_25) rfl (l' := #[.val (.ref b), .val (.int c), .val (.int (0 : Int32)), .val (.int (15 : Int32)), .val (.int (c.toInt8.toInt32)), .val (.int (8 : Int32))]) rfl kq)
                  show Win p e below _ s₁ (mkF mt 28 #[.val (.ref b), .val (.int c), .val (.int (0 : Int32)), .val (.int (15 : Int32)), .val (.int (c.toInt8.toInt32)), .val (.int (8 : Int32))] [])
                  refine Win.st ?_ (fun tq kq => XS.goto X0.here hx rfl (pc0 := 28) (pc' := 7) rfl (hb hby d_jdk_43_method_23_28) (by decide) (by decide) kq)
                  show Win p e below _ s₁ (mkF mt 7 #[.val (.ref b), .val (.int c), .val (.int (0 : Int32)), .val (.int (15 : Int32)), .val (.int (c.toInt8.toInt32)), .val (.int (8 : Int32))] [])
                  refine Win.st ?_ (fun tq kq => XS.iload X0.here hx rfl (hb hby d_jdk_43_method_23_7) rfl kq)
                  show Win p e below _ s₁ (mkF mt 9 #[.val (.ref b), .val (.int c), .val (.int (0 : Int32)), .val (.int (15 : Int32)), .val (.int (c.toInt8.toInt32)), .val (.int (8 : Int32))] [(.int (8 : Int32))])
                  refine Win.st ?_ (fun tq kq => XS.iloadN X0.here hx rfl (hb hby d_jdk_43_method_23_9) rfl kq)
                  show Win p e below _ s₁ (mkF mt 10 #[.val (.ref b), .val (.int c), .val (.int (0 : Int32)), .val (.int (15 : Int32)), .val (.int (c.toInt8.toInt32)), .val (.int (8 : Int32))] [(.int (15 : Int32)), (.int (8 : Int32))])
                  refine Win.st ?_ (fun tq kq => XS.icmpNo X0.here hx rfl (hb hby d_jdk_43_method_23_10) rfl (tlt (by decide : (8 : Int32) < (15 : Int32))).2.1 kq)
                  show Win p e below _ s₁ (mkF mt 13 #[.val (.ref b), .val (.int c), .val (.int (0 : Int32)), .val (.int (15 : Int32)), .val (.int (c.toInt8.toInt32)), .val (.int (8 : Int32))] [])
                  refine Win.st ?_ (fun tq kq => XS.aloadN X0.here hx rfl (hb hby d_jdk_43_method_23_13) rfl rfl kq)
                  show Win p e below _ s₁ (mkF mt 14 #[.val (.ref b), .val (.int c), .val (.int (0 : Int32)), .val (.int (15 : Int32)), .val (.int (c.toInt8.toInt32)), .val (.int (8 : Int32))] [(.ref b)])
                  refine Win.st ?_ (fun tq kq => XS.iload X0.here hx rfl (hb hby d_jdk_43_method_23_14) rfl kq)
                  show Win p e below _ s₁ (mkF mt 16 #[.val (.ref b), .val (.int c), .val (.int (0 : Int32)), .val (.int (15 : Int32)), .val (.int (c.toInt8.toInt32)), .val (.int (8 : Int32))] [(.int (8 : Int32)), (.ref b)])
                  refine Win.st ?_ (own_bald (g := (mkF mt 16 #[.val (.ref b), .val (.int c), .val (.int (0 : Int32)), .val (.int (15 : Int32)), .val (.int (c.toInt8.toInt32)), .val (.int (8 : Int32))] [(.int (8 : Int32)), (.ref b)])) X0 hx hZ e0 VB (j := (8 : Int32)) (v := (.int (45 : Int32))) (by decide) (by decide) rfl rfl rfl (hb hby d_jdk_43_method_23_16))
                  show Win p e below _ s₁ (mkF mt 17 #[.val (.ref b), .val (.int c), .val (.int (0 : Int32)), .val (.int (15 : Int32)), .val (.int (c.toInt8.toInt32)), .val (.int (8 : Int32))] [(.int (45 : Int32))])
                  refine Win.st ?_ (fun tq kq => XS.iload X0.here hx rfl (hb hby d_jdk_43_method_23_17) rfl kq)
                  show Win p e below _ s₁ (mkF mt 19 #[.val (.ref b), .val (.int c), .val (.int (0 : Int32)), .val (.int (15 : Int32)), .val (.int (c.toInt8.toInt32)), .val (.int (8 : Int32))] [(.int (c.toInt8.toInt32)), (.int (45 : Int32))])
                  by_cases hc19_25 : (45 : Int32) = (c.toInt8.toInt32)
                  · refine Win.st ?_ (fun tq kq => XS.icmpNo X0.here hx rfl (hb hby d_jdk_43_method_23_19) rfl (teq hc19_25).2 kq)
                    show Win p e below _ s₁ (mkF mt 22 #[.val (.ref b), .val (.int c), .val (.int (0 : Int32)), .val (.int (15 : Int32)), .val (.int (c.toInt8.toInt32)), .val (.int (8 : Int32))] [])
                    refine Win.st ?_ (fun tq kq => XS.iload X0.here hx rfl (hb hby d_jdk_43_method_23_22) rfl kq)
                    show Win p e below _ s₁ (mkF mt 24 #[.val (.ref b), .val (.int c), .val (.int (0 : Int32)), .val (.int (15 : Int32)), .val (.int (c.toInt8.toInt32)), .val (.int (8 : Int32))] [(.int (8 : Int32))])
                    exact Win.ret X0 hx hlk e0 hrt rfl (Or.inl ⟨rfl, Or.inl rfl, _, rfl⟩) (hb hby d_jdk_43_method_23_24) (by decide) (by decide) ⟨_, rfl, N0, rfl, ⟨fun q => absurd q (by decide), fun q => absurd (own_bk hcB ⟨by decide, by decide⟩ hc19_25 (by decide)) (q.2.2.2.2.2.2.2.2.1)⟩⟩
                  · refine Win.st ?_ (fun tq kq => XS.icmpYes X0.here hx rfl (pc0 := 19) (pc' := 25) rfl (hb hby d_jdk_43_method_23_19) rfl (feq hc19_25).2 (by decide) (by decide) kq)
                    show Win p e below _ s₁ (mkF mt 25 #[.val (.ref b), .val (.int c), .val (.int (0 : Int32)), .val (.int (15 : Int32)), .val (.int (c.toInt8.toInt32)), .val (.int (8 : Int32))] [])
                    refine Win.st ?_ (fun tq kq => XS.iinc X0.here hx rfl (hb hby d_jdk_43_method_23_25) rfl (l' := #[.val (.ref b), .val (.int c), .val (.int (0 : Int32)), .val (.int (15 : Int32)), .val (.int (c.toInt8.toInt32)), .val (.int (9 : Int32))]) rfl kq)
                    show Win p e below _ s₁ (mkF mt 28 #[.val (.ref b), .val (.int c), .val (.int (0 : Int32)), .val (.int (15 : Int32)), .val (.int (c.toInt8.toInt32)), .val (.int (9 : Int32))] [])
                    refine Win.st ?_ (fun tq kq => XS.goto X0.here hx rfl (pc0 := 28) (pc' := 7) rfl (hb hby d_jdk_43_method_23_28) (by decide) (by decide) kq)
                    show Win p e below _ s₁ (mkF mt 7 #[.val (.ref b), .val (.int c), .val (.int (0 : Int32)), .val (.int (15 : Int32)), .val (.int (c.toInt8.toInt32)), .val (.int (9 : Int32))] [])
                    refine Win.st ?_ (fun tq kq => XS.iload X0.here hx rfl (hb hby d_jdk_43_method_23_7) rfl kq)
                    show Win p e below _ s₁ (mkF mt 9 #[.val (.ref b), .val (.int c), .val (.int (0 : Int32)), .val (.int (15 : Int32)), .val (.int (c.toInt8.toInt32)), .val (.int (9 : Int32))] [(.int (9 : Int32))])
                    refine Win.st ?_ (fun tq kq => XS.iloadN X0.here hx rfl (hb hby d_jdk_43_method_23_9) rfl kq)
                    show Win p e below _ s₁ (mkF mt 10 #[.val (.ref b), .val (.int c), .val (.int (0 : Int32)), .val (.int (15 : Int32)), .val (.int (c.toInt8.toInt32)), .val (.int (9 : Int32))] [(.int (15 : Int32)), (.int (9 : Int32))])
                    refine Win.st ?_ (fun tq kq => XS.icmpNo X0.here hx rfl (hb hby d_jdk_43_method_23_10) rfl (tlt (by decide : (9 : Int32) < (15 : Int32))).2.1 kq)
                    show Win p e below _ s₁ (mkF mt 13 #[.val (.ref b), .val (.int c), .val (.int (0 : Int32)), .val (.int (15 : Int32)), .val (.int (c.toInt8.toInt32)), .val (.int (9 : Int32))] [])
                    refine Win.st ?_ (fun tq kq => XS.aloadN X0.here hx rfl (hb hby d_jdk_43_method_23_13) rfl rfl kq)
                    show Win p e below _ s₁ (mkF mt 14 #[.val (.ref b), .val (.int c), .val (.int (0 : Int32)), .val (.int (15 : Int32)), .val (.int (c.toInt8.toInt32)), .val (.int (9 : Int32))] [(.ref b)])
                    refine Win.st ?_ (fun tq kq => XS.iload X0.here hx rfl (hb hby d_jdk_43_method_23_14) rfl kq)
                    show Win p e below _ s₁ (mkF mt 16 #[.val (.ref b), .val (.int c), .val (.int (0 : Int32)), .val (.int (15 : Int32)), .val (.int (c.toInt8.toInt32)), .val (.int (9 : Int32))] [(.int (9 : Int32)), (.ref b)])
                    refine Win.st ?_ (own_bald (g := (mkF mt 16 #[.val (.ref b), .val (.int c), .val (.int (0 : Int32)), .val (.int (15 : Int32)), .val (.int (c.toInt8.toInt32)), .val (.int (9 : Int32))] [(.int (9 : Int32)), (.ref b)])) X0 hx hZ e0 VB (j := (9 : Int32)) (v := (.int (46 : Int32))) (by decide) (by decide) rfl rfl rfl (hb hby d_jdk_43_method_23_16))
                    show Win p e below _ s₁ (mkF mt 17 #[.val (.ref b), .val (.int c), .val (.int (0 : Int32)), .val (.int (15 : Int32)), .val (.int (c.toInt8.toInt32)), .val (.int (9 : Int32))] [(.int (46 : Int32))])
                    refine Win.st ?_ (fun tq kq => XS.iload X0.here hx rfl (hb hby d_jdk_43_method_23_17) rfl kq)
                    show Win p e below _ s₁ (mkF mt 19 #[.val (.ref b), .val (.int c), .val (.int (0 : Int32)), .val (.int (15 : Int32)), .val (.int (c.toInt8.toInt32)), .val (.int (9 : Int32))] [(.int (c.toInt8.toInt32)), (.int (46 : Int32))])
                    by_cases hc19_26 : (46 : Int32) = (c.toInt8.toInt32)
                    · refine Win.st ?_ (fun tq kq => XS.icmpNo X0.here hx rfl (hb hby d_jdk_43_method_23_19) rfl (teq hc19_26).2 kq)
                      show Win p e below _ s₁ (mkF mt 22 #[.val (.ref b), .val (.int c), .val (.int (0 : Int32)), .val (.int (15 : Int32)), .val (.int (c.toInt8.toInt32)), .val (.int (9 : Int32))] [])
                      refine Win.st ?_ (fun tq kq => XS.iload X0.here hx rfl (hb hby d_jdk_43_method_23_22) rfl kq)
                      show Win p e below _ s₁ (mkF mt 24 #[.val (.ref b), .val (.int c), .val (.int (0 : Int32)), .val (.int (15 : Int32)), .val (.int (c.toInt8.toInt32)), .val (.int (9 : Int32))] [(.int (9 : Int32))])
                      exact Win.ret X0 hx hlk e0 hrt rfl (Or.inl ⟨rfl, Or.inl rfl, _, rfl⟩) (hb hby d_jdk_43_method_23_24) (by decide) (by decide) ⟨_, rfl, N0, rfl, ⟨fun q => absurd q (by decide), fun q => absurd (own_bk hcB ⟨by decide, by decide⟩ hc19_26 (by decide)) (q.2.2.2.2.2.2.2.2.2.1)⟩⟩
                    · refine Win.st ?_ (fun tq kq => XS.icmpYes X0.here hx rfl (pc0 := 19) (pc' := 25) rfl (hb hby d_jdk_43_method_23_19) rfl (feq hc19_26).2 (by decide) (by decide) kq)
                      show Win p e below _ s₁ (mkF mt 25 #[.val (.ref b), .val (.int c), .val (.int (0 : Int32)), .val (.int (15 : Int32)), .val (.int (c.toInt8.toInt32)), .val (.int (9 : Int32))] [])
                      refine Win.st ?_ (fun tq kq => XS.iinc X0.here hx rfl (hb hby d_jdk_43_method_23_25) rfl (l' := #[.val (.ref b), .val (.int c), .val (.int (0 : Int32)), .val (.int (15 : Int32)), .val (.int (c.toInt8.toInt32)), .val (.int (10 : Int32))]) rfl kq)
                      show Win p e below _ s₁ (mkF mt 28 #[.val (.ref b), .val (.int c), .val (.int (0 : Int32)), .val (.int (15 : Int32)), .val (.int (c.toInt8.toInt32)), .val (.int (10 : Int32))] [])
                      refine Win.st ?_ (fun tq kq => XS.goto X0.here hx rfl (pc0 := 28) (pc' := 7) rfl (hb hby d_jdk_43_method_23_28) (by decide) (by decide) kq)
                      show Win p e below _ s₁ (mkF mt 7 #[.val (.ref b), .val (.int c), .val (.int (0 : Int32)), .val (.int (15 : Int32)), .val (.int (c.toInt8.toInt32)), .val (.int (10 : Int32))] [])
                      refine Win.st ?_ (fun tq kq => XS.iload X0.here hx rfl (hb hby d_jdk_43_method_23_7) rfl kq)
                      show Win p e below _ s₁ (mkF mt 9 #[.val (.ref b), .val (.int c), .val (.int (0 : Int32)), .val (.int (15 : Int32)), .val (.int (c.toInt8.toInt32)), .val (.int (10 : Int32))] [(.int (10 : Int32))])
                      refine Win.st ?_ (fun tq kq => XS.iloadN X0.here hx rfl (hb hby d_jdk_43_method_23_9) rfl kq)
                      show Win p e below _ s₁ (mkF mt 10 #[.val (.ref b), .val (.int c), .val (.int (0 : Int32)), .val (.int (15 : Int32)), .val (.int (c.toInt8.toInt32)), .val (.int (10 : Int32))] [(.int (15 : Int32)), (.int (10 : Int32))])
                      refine Win.st ?_ (fun tq kq => XS.icmpNo X0.here hx rfl (hb hby d_jdk_43_method_23_10) rfl (tlt (by decide : (10 : Int32) < (15 : Int32))).2.1 kq)
                      show Win p e below _ s₁ (mkF mt 13 #[.val (.ref b), .val (.int c), .val (.int (0 : Int32)), .val (.int (15 : Int32)), .val (.int (c.toInt8.toInt32)), .val (.int (10 : Int32))] [])
                      refine Win.st ?_ (fun tq kq => XS.aloadN X0.here hx rfl (hb hby d_jdk_43_method_23_13) rfl rfl kq)
                      show Win p e below _ s₁ (mkF mt 14 #[.val (.ref b), .val (.int c), .val (.int (0 : Int32)), .val (.int (15 : Int32)), .val (.int (c.toInt8.toInt32)), .val (.int (10 : Int32))] [(.ref b)])
                      refine Win.st ?_ (fun tq kq => XS.iload X0.here hx rfl (hb hby d_jdk_43_method_23_14) rfl kq)
                      show Win p e below _ s₁ (mkF mt 16 #[.val (.ref b), .val (.int c), .val (.int (0 : Int32)), .val (.int (15 : Int32)), .val (.int (c.toInt8.toInt32)), .val (.int (10 : Int32))] [(.int (10 : Int32)), (.ref b)])
                      refine Win.st ?_ (own_bald (g := (mkF mt 16 #[.val (.ref b), .val (.int c), .val (.int (0 : Int32)), .val (.int (15 : Int32)), .val (.int (c.toInt8.toInt32)), .val (.int (10 : Int32))] [(.int (10 : Int32)), (.ref b)])) X0 hx hZ e0 VB (j := (10 : Int32)) (v := (.int (94 : Int32))) (by decide) (by decide) rfl rfl rfl (hb hby d_jdk_43_method_23_16))
                      show Win p e below _ s₁ (mkF mt 17 #[.val (.ref b), .val (.int c), .val (.int (0 : Int32)), .val (.int (15 : Int32)), .val (.int (c.toInt8.toInt32)), .val (.int (10 : Int32))] [(.int (94 : Int32))])
                      refine Win.st ?_ (fun tq kq => XS.iload X0.here hx rfl (hb hby d_jdk_43_method_23_17) rfl kq)
                      show Win p e below _ s₁ (mkF mt 19 #[.val (.ref b), .val (.int c), .val (.int (0 : Int32)), .val (.int (15 : Int32)), .val (.int (c.toInt8.toInt32)), .val (.int (10 : Int32))] [(.int (c.toInt8.toInt32)), (.int (94 : Int32))])
                      by_cases hc19_27 : (94 : Int32) = (c.toInt8.toInt32)
                      · refine Win.st ?_ (fun tq kq => XS.icmpNo X0.here hx rfl (hb hby d_jdk_43_method_23_19) rfl (teq hc19_27).2 kq)
                        show Win p e below _ s₁ (mkF mt 22 #[.val (.ref b), .val (.int c), .val (.int (0 : Int32)), .val (.int (15 : Int32)), .val (.int (c.toInt8.toInt32)), .val (.int (10 : Int32))] [])
                        refine Win.st ?_ (fun tq kq => XS.iload X0.here hx rfl (hb hby d_jdk_43_method_23_22) rfl kq)
                        show Win p e below _ s₁ (mkF mt 24 #[.val (.ref b), .val (.int c), .val (.int (0 : Int32)), .val (.int (15 : Int32)), .val (.int (c.toInt8.toInt32)), .val (.int (10 : Int32))] [(.int (10 : Int32))])
                        exact Win.ret X0 hx hlk e0 hrt rfl (Or.inl ⟨rfl, Or.inl rfl, _, rfl⟩) (hb hby d_jdk_43_method_23_24) (by decide) (by decide) ⟨_, rfl, N0, rfl, ⟨fun q => absurd q (by decide), fun q => absurd (own_bk hcB ⟨by decide, by decide⟩ hc19_27 (by decide)) (q.2.2.2.2.2.2.2.2.2.2.1)⟩⟩
                      · refine Win.st ?_ (fun tq kq => XS.icmpYes X0.here hx rfl (pc0 := 19) (pc' := 25) rfl (hb hby d_jdk_43_method_23_19) rfl (feq hc19_27).2 (by decide) (by decide) kq)
                        show Win p e below _ s₁ (mkF mt 25 #[.val (.ref b), .val (.int c), .val (.int (0 : Int32)), .val (.int (15 : Int32)), .val (.int (c.toInt8.toInt32)), .val (.int (10 : Int32))] [])
                        refine Win.st ?_ (fun tq kq => XS.iinc X0.here hx rfl (hb hby d_jdk_43_method_23_25) rfl (l' := #[.val (.ref b), .val (.int c), .val (.int (0 : Int32)), .val (.int (15 : Int32)), .val (.int (c.toInt8.toInt32)), .val (.int (11 : Int32))]) rfl kq)
                        show Win p e below _ s₁ (mkF mt 28 #[.val (.ref b), .val (.int c), .val (.int (0 : Int32)), .val (.int (15 : Int32)), .val (.int (c.toInt8.toInt32)), .val (.int (11 : Int32))] [])
                        refine Win.st ?_ (fun tq kq => XS.goto X0.here hx rfl (pc0 := 28) (pc' := 7) rfl (hb hby d_jdk_43_method_23_28) (by decide) (by decide) kq)
                        show Win p e below _ s₁ (mkF mt 7 #[.val (.ref b), .val (.int c), .val (.int (0 : Int32)), .val (.int (15 : Int32)), .val (.int (c.toInt8.toInt32)), .val (.int (11 : Int32))] [])
                        refine Win.st ?_ (fun tq kq => XS.iload X0.here hx rfl (hb hby d_jdk_43_method_23_7) rfl kq)
                        show Win p e below _ s₁ (mkF mt 9 #[.val (.ref b), .val (.int c), .val (.int (0 : Int32)), .val (.int (15 : Int32)), .val (.int (c.toInt8.toInt32)), .val (.int (11 : Int32))] [(.int (11 : Int32))])
                        refine Win.st ?_ (fun tq kq => XS.iloadN X0.here hx rfl (hb hby d_jdk_43_method_23_9) rfl kq)
                        show Win p e below _ s₁ (mkF mt 10 #[.val (.ref b), .val (.int c), .val (.int (0 : Int32)), .val (.int (15 : Int32)), .val (.int (c.toInt8.toInt32)), .val (.int (11 : Int32))] [(.int (15 : Int32)), (.int (11 : Int32))])
                        refine Win.st ?_ (fun tq kq => XS.icmpNo X0.here hx rfl (hb hby d_jdk_43_method_23_10) rfl (tlt (by decide : (11 : Int32) < (15 : Int32))).2.1 kq)
                        show Win p e below _ s₁ (mkF mt 13 #[.val (.ref b), .val (.int c), .val (.int (0 : Int32)), .val (.int (15 : Int32)), .val (.int (c.toInt8.toInt32)), .val (.int (11 : Int32))] [])
                        refine Win.st ?_ (fun tq kq => XS.aloadN X0.here hx rfl (hb hby d_jdk_43_method_23_13) rfl rfl kq)
                        show Win p e below _ s₁ (mkF mt 14 #[.val (.ref b), .val (.int c), .val (.int (0 : Int32)), .val (.int (15 : Int32)), .val (.int (c.toInt8.toInt32)), .val (.int (11 : Int32))] [(.ref b)])
                        refine Win.st ?_ (fun tq kq => XS.iload X0.here hx rfl (hb hby d_jdk_43_method_23_14) rfl kq)
                        show Win p e below _ s₁ (mkF mt 16 #[.val (.ref b), .val (.int c), .val (.int (0 : Int32)), .val (.int (15 : Int32)), .val (.int (c.toInt8.toInt32)), .val (.int (11 : Int32))] [(.int (11 : Int32)), (.ref b)])
                        refine Win.st ?_ (own_bald (g := (mkF mt 16 #[.val (.ref b), .val (.int c), .val (.int (0 : Int32)), .val (.int (15 : Int32)), .val (.int (c.toInt8.toInt32)), .val (.int (11 : Int32))] [(.int (11 : Int32)), (.ref b)])) X0 hx hZ e0 VB (j := (11 : Int32)) (v := (.int (95 : Int32))) (by decide) (by decide) rfl rfl rfl (hb hby d_jdk_43_method_23_16))
                        show Win p e below _ s₁ (mkF mt 17 #[.val (.ref b), .val (.int c), .val (.int (0 : Int32)), .val (.int (15 : Int32)), .val (.int (c.toInt8.toInt32)), .val (.int (11 : Int32))] [(.int (95 : Int32))])
                        refine Win.st ?_ (fun tq kq => XS.iload X0.here hx rfl (hb hby d_jdk_43_method_23_17) rfl kq)
                        show Win p e below _ s₁ (mkF mt 19 #[.val (.ref b), .val (.int c), .val (.int (0 : Int32)), .val (.int (15 : Int32)), .val (.int (c.toInt8.toInt32)), .val (.int (11 : Int32))] [(.int (c.toInt8.toInt32)), (.int (95 : Int32))])
                        by_cases hc19_28 : (95 : Int32) = (c.toInt8.toInt32)
                        · refine Win.st ?_ (fun tq kq => XS.icmpNo X0.here hx rfl (hb hby d_jdk_43_method_23_19) rfl (teq hc19_28).2 kq)
                          show Win p e below _ s₁ (mkF mt 22 #[.val (.ref b), .val (.int c), .val (.int (0 : Int32)), .val (.int (15 : Int32)), .val (.int (c.toInt8.toInt32)), .val (.int (11 : Int32))] [])
                          refine Win.st ?_ (fun tq kq => XS.iload X0.here hx rfl (hb hby d_jdk_43_method_23_22) rfl kq)
                          show Win p e below _ s₁ (mkF mt 24 #[.val (.ref b), .val (.int c), .val (.int (0 : Int32)), .val (.int (15 : Int32)), .val (.int (c.toInt8.toInt32)), .val (.int (11 : Int32))] [(.int (11 : Int32))])
                          exact Win.ret X0 hx hlk e0 hrt rfl (Or.inl ⟨rfl, Or.inl rfl, _, rfl⟩) (hb hby d_jdk_43_method_23_24) (by decide) (by decide) ⟨_, rfl, N0, rfl, ⟨fun q => absurd q (by decide), fun q => absurd (own_bk hcB ⟨by decide, by decide⟩ hc19_28 (by decide)) (q.2.2.2.2.2.2.2.2.2.2.2.1)⟩⟩
                        · refine Win.st ?_ (fun tq kq => XS.icmpYes X0.here hx rfl (pc0 := 19) (pc' := 25) rfl (hb hby d_jdk_43_method_23_19) rfl (feq hc19_28).2 (by decide) (by decide) kq)
                          show Win p e below _ s₁ (mkF mt 25 #[.val (.ref b), .val (.int c), .val (.int (0 : Int32)), .val (.int (15 : Int32)), .val (.int (c.toInt8.toInt32)), .val (.int (11 : Int32))] [])
                          refine Win.st ?_ (fun tq kq => XS.iinc X0.here hx rfl (hb hby d_jdk_43_method_23_25) rfl (l' := #[.val (.ref b), .val (.int c), .val (.int (0 : Int32)), .val (.int (15 : Int32)), .val (.int (c.toInt8.toInt32)), .val (.int (12 : Int32))]) rfl kq)
                          show Win p e below _ s₁ (mkF mt 28 #[.val (.ref b), .val (.int c), .val (.int (0 : Int32)), .val (.int (15 : Int32)), .val (.int (c.toInt8.toInt32)), .val (.int (12 : Int32))] [])
                          refine Win.st ?_ (fun tq kq => XS.goto X0.here hx rfl (pc0 := 28) (pc' := 7) rfl (hb hby d_jdk_43_method_23_28) (by decide) (by decide) kq)
                          show Win p e below _ s₁ (mkF mt 7 #[.val (.ref b), .val (.int c), .val (.int (0 : Int32)), .val (.int (15 : Int32)), .val (.int (c.toInt8.toInt32)), .val (.int (12 : Int32))] [])
                          refine Win.st ?_ (fun tq kq => XS.iload X0.here hx rfl (hb hby d_jdk_43_method_23_7) rfl kq)
                          show Win p e below _ s₁ (mkF mt 9 #[.val (.ref b), .val (.int c), .val (.int (0 : Int32)), .val (.int (15 : Int32)), .val (.int (c.toInt8.toInt32)), .val (.int (12 : Int32))] [(.int (12 : Int32))])
                          refine Win.st ?_ (fun tq kq => XS.iloadN X0.here hx rfl (hb hby d_jdk_43_method_23_9) rfl kq)
                          show Win p e below _ s₁ (mkF mt 10 #[.val (.ref b), .val (.int c), .val (.int (0 : Int32)), .val (.int (15 : Int32)), .val (.int (c.toInt8.toInt32)), .val (.int (12 : Int32))] [(.int (15 : Int32)), (.int (12 : Int32))])
                          refine Win.st ?_ (fun tq kq => XS.icmpNo X0.here hx rfl (hb hby d_jdk_43_method_23_10) rfl (tlt (by decide : (12 : Int32) < (15 : Int32))).2.1 kq)
                          show Win p e below _ s₁ (mkF mt 13 #[.val (.ref b), .val (.int c), .val (.int (0 : Int32)), .val (.int (15 : Int32)), .val (.int (c.toInt8.toInt32)), .val (.int (12 : Int32))] [])
                          refine Win.st ?_ (fun tq kq => XS.aloadN X0.here hx rfl (hb hby d_jdk_43_method_23_13) rfl rfl kq)
                          show Win p e below _ s₁ (mkF mt 14 #[.val (.ref b), .val (.int c), .val (.int (0 : Int32)), .val (.int (15 : Int32)), .val (.int (c.toInt8.toInt32)), .val (.int (12 : Int32))] [(.ref b)])
                          refine Win.st ?_ (fun tq kq => XS.iload X0.here hx rfl (hb hby d_jdk_43_method_23_14) rfl kq)
                          show Win p e below _ s₁ (mkF mt 16 #[.val (.ref b), .val (.int c), .val (.int (0 : Int32)), .val (.int (15 : Int32)), .val (.int (c.toInt8.toInt32)), .val (.int (12 : Int32))] [(.int (12 : Int32)), (.ref b)])
                          refine Win.st ?_ (own_bald (g := (mkF mt 16 #[.val (.ref b), .val (.int c), .val (.int (0 : Int32)), .val (.int (15 : Int32)), .val (.int (c.toInt8.toInt32)), .val (.int (12 : Int32))] [(.int (12 : Int32)), (.ref b)])) X0 hx hZ e0 VB (j := (12 : Int32)) (v := (.int (96 : Int32))) (by decide) (by decide) rfl rfl rfl (hb hby d_jdk_43_method_23_16))
                          show Win p e below _ s₁ (mkF mt 17 #[.val (.ref b), .val (.int c), .val (.int (0 : Int32)), .val (.int (15 : Int32)), .val (.int (c.toInt8.toInt32)), .val (.int (12 : Int32))] [(.int (96 : Int32))])
                          refine Win.st ?_ (fun tq kq => XS.iload X0.here hx rfl (hb hby d_jdk_43_method_23_17) rfl kq)
                          show Win p e below _ s₁ (mkF mt 19 #[.val (.ref b), .val (.int c), .val (.int (0 : Int32)), .val (.int (15 : Int32)), .val (.int (c.toInt8.toInt32)), .val (.int (12 : Int32))] [(.int (c.toInt8.toInt32)), (.int (96 : Int32))])
                          by_cases hc19_29 : (96 : Int32) = (c.toInt8.toInt32)
                          · refine Win.st ?_ (fun tq kq => XS.icmpNo X0.here hx rfl (hb hby d_jdk_43_method_23_19) rfl (teq hc19_29).2 kq)
                            show Win p e below _ s₁ (mkF mt 22 #[.val (.ref b), .val (.int c), .val (.int (0 : Int32)), .val (.int (15 : Int32)), .val (.int (c.toInt8.toInt32)), .val (.int (12 : Int32))] [])
                            refine Win.st ?_ (fun tq kq => XS.iload X0.here hx rfl (hb hby d_jdk_43_method_23_22) rfl kq)
                            show Win p e below _ s₁ (mkF mt 24 #[.val (.ref b), .val (.int c), .val (.int (0 : Int32)), .val (.int (15 : Int32)), .val (.int (c.toInt8.toInt32)), .val (.int (12 : Int32))] [(.int (12 : Int32))])
                            exact Win.ret X0 hx hlk e0 hrt rfl (Or.inl ⟨rfl, Or.inl rfl, _, rfl⟩) (hb hby d_jdk_43_method_23_24) (by decide) (by decide) ⟨_, rfl, N0, rfl, ⟨fun q => absurd q (by decide), fun q => absurd (own_bk hcB ⟨by decide, by decide⟩ hc19_29 (by decide)) (q.2.2.2.2.2.2.2.2.2.2.2.2.1)⟩⟩
                          · refine Win.st ?_ (fun tq kq => XS.icmpYes X0.here hx rfl (pc0 := 19) (pc' := 25) rfl (hb hby d_jdk_43_method_23_19) rfl (feq hc19_29).2 (by decide) (by decide) kq)
                            show Win p e below _ s₁ (mkF mt 25 #[.val (.ref b), .val (.int c), .val (.int (0 : Int32)), .val (.int (15 : Int32)), .val (.int (c.toInt8.toInt32)), .val (.int (12 : Int32))] [])
                            refine Win.st ?_ (fun tq kq => XS.iinc X0.here hx rfl (hb hby d_jdk_43_method_23_25) rfl (l' := #[.val (.ref b), .val (.int c), .val (.int (0 : Int32)), .val (.int (15 : Int32)), .val (.int (c.toInt8.toInt32)), .val (.int (13 : Int32))]) rfl kq)
                            show Win p e below _ s₁ (mkF mt 28 #[.val (.ref b), .val (.int c), .val (.int (0 : Int32)), .val (.int (15 : Int32)), .val (.int (c.toInt8.toInt32)), .val (.int (13 : Int32))] [])
                            refine Win.st ?_ (fun tq kq => XS.goto X0.here hx rfl (pc0 := 28) (pc' := 7) rfl (hb hby d_jdk_43_method_23_28) (by decide) (by decide) kq)
                            show Win p e below _ s₁ (mkF mt 7 #[.val (.ref b), .val (.int c), .val (.int (0 : Int32)), .val (.int (15 : Int32)), .val (.int (c.toInt8.toInt32)), .val (.int (13 : Int32))] [])
                            refine Win.st ?_ (fun tq kq => XS.iload X0.here hx rfl (hb hby d_jdk_43_method_23_7) rfl kq)
                            show Win p e below _ s₁ (mkF mt 9 #[.val (.ref b), .val (.int c), .val (.int (0 : Int32)), .val (.int (15 : Int32)), .val (.int (c.toInt8.toInt32)), .val (.int (13 : Int32))] [(.int (13 : Int32))])
                            refine Win.st ?_ (fun tq kq => XS.iloadN X0.here hx rfl (hb hby d_jdk_43_method_23_9) rfl kq)
                            show Win p e below _ s₁ (mkF mt 10 #[.val (.ref b), .val (.int c), .val (.int (0 : Int32)), .val (.int (15 : Int32)), .val (.int (c.toInt8.toInt32)), .val (.int (13 : Int32))] [(.int (15 : Int32)), (.int (13 : Int32))])
                            refine Win.st ?_ (fun tq kq => XS.icmpNo X0.here hx rfl (hb hby d_jdk_43_method_23_10) rfl (tlt (by decide : (13 : Int32) < (15 : Int32))).2.1 kq)
                            show Win p e below _ s₁ (mkF mt 13 #[.val (.ref b), .val (.int c), .val (.int (0 : Int32)), .val (.int (15 : Int32)), .val (.int (c.toInt8.toInt32)), .val (.int (13 : Int32))] [])
                            refine Win.st ?_ (fun tq kq => XS.aloadN X0.here hx rfl (hb hby d_jdk_43_method_23_13) rfl rfl kq)
                            show Win p e below _ s₁ (mkF mt 14 #[.val (.ref b), .val (.int c), .val (.int (0 : Int32)), .val (.int (15 : Int32)), .val (.int (c.toInt8.toInt32)), .val (.int (13 : Int32))] [(.ref b)])
                            refine Win.st ?_ (fun tq kq => XS.iload X0.here hx rfl (hb hby d_jdk_43_method_23_14) rfl kq)
                            show Win p e below _ s₁ (mkF mt 16 #[.val (.ref b), .val (.int c), .val (.int (0 : Int32)), .val (.int (15 : Int32)), .val (.int (c.toInt8.toInt32)), .val (.int (13 : Int32))] [(.int (13 : Int32)), (.ref b)])
                            refine Win.st ?_ (own_bald (g := (mkF mt 16 #[.val (.ref b), .val (.int c), .val (.int (0 : Int32)), .val (.int (15 : Int32)), .val (.int (c.toInt8.toInt32)), .val (.int (13 : Int32))] [(.int (13 : Int32)), (.ref b)])) X0 hx hZ e0 VB (j := (13 : Int32)) (v := (.int (124 : Int32))) (by decide) (by decide) rfl rfl rfl (hb hby d_jdk_43_method_23_16))
                            show Win p e below _ s₁ (mkF mt 17 #[.val (.ref b), .val (.int c), .val (.int (0 : Int32)), .val (.int (15 : Int32)), .val (.int (c.toInt8.toInt32)), .val (.int (13 : Int32))] [(.int (124 : Int32))])
                            refine Win.st ?_ (fun tq kq => XS.iload X0.here hx rfl (hb hby d_jdk_43_method_23_17) rfl kq)
                            show Win p e below _ s₁ (mkF mt 19 #[.val (.ref b), .val (.int c), .val (.int (0 : Int32)), .val (.int (15 : Int32)), .val (.int (c.toInt8.toInt32)), .val (.int (13 : Int32))] [(.int (c.toInt8.toInt32)), (.int (124 : Int32))])
                            by_cases hc19_30 : (124 : Int32) = (c.toInt8.toInt32)
                            · refine Win.st ?_ (fun tq kq => XS.icmpNo X0.here hx rfl (hb hby d_jdk_43_method_23_19) rfl (teq hc19_30).2 kq)
                              show Win p e below _ s₁ (mkF mt 22 #[.val (.ref b), .val (.int c), .val (.int (0 : Int32)), .val (.int (15 : Int32)), .val (.int (c.toInt8.toInt32)), .val (.int (13 : Int32))] [])
                              refine Win.st ?_ (fun tq kq => XS.iload X0.here hx rfl (hb hby d_jdk_43_method_23_22) rfl kq)
                              show Win p e below _ s₁ (mkF mt 24 #[.val (.ref b), .val (.int c), .val (.int (0 : Int32)), .val (.int (15 : Int32)), .val (.int (c.toInt8.toInt32)), .val (.int (13 : Int32))] [(.int (13 : Int32))])
                              exact Win.ret X0 hx hlk e0 hrt rfl (Or.inl ⟨rfl, Or.inl rfl, _, rfl⟩) (hb hby d_jdk_43_method_23_24) (by decide) (by decide) ⟨_, rfl, N0, rfl, ⟨fun q => absurd q (by decide), fun q => absurd (own_bk hcB ⟨by decide, by decide⟩ hc19_30 (by decide)) (q.2.2.2.2.2.2.2.2.2.2.2.2.2.1)⟩⟩
                            · refine Win.st ?_ (fun tq kq => XS.icmpYes X0.here hx rfl (pc0 := 19) (pc' := 25) rfl (hb hby d_jdk_43_method_23_19) rfl (feq hc19_30).2 (by decide) (by decide) kq)
                              show Win p e below _ s₁ (mkF mt 25 #[.val (.ref b), .val (.int c), .val (.int (0 : Int32)), .val (.int (15 : Int32)), .val (.int (c.toInt8.toInt32)), .val (.int (13 : Int32))] [])
                              refine Win.st ?_ (fun tq kq => XS.iinc X0.here hx rfl (hb hby d_jdk_43_method_23_25) rfl (l' := #[.val (.ref b), .val (.int c), .val (.int (0 : Int32)), .val (.int (15 : Int32)), .val (.int (c.toInt8.toInt32)), .val (.int (14 : Int32))]) rfl kq)
                              show Win p e below _ s₁ (mkF mt 28 #[.val (.ref b), .val (.int c), .val (.int (0 : Int32)), .val (.int (15 : Int32)), .val (.int (c.toInt8.toInt32)), .val (.int (14 : Int32))] [])
                              refine Win.st ?_ (fun tq kq => XS.goto X0.here hx rfl (pc0 := 28) (pc' := 7) rfl (hb hby d_jdk_43_method_23_28) (by decide) (by decide) kq)
                              show Win p e below _ s₁ (mkF mt 7 #[.val (.ref b), .val (.int c), .val (.int (0 : Int32)), .val (.int (15 : Int32)), .val (.int (c.toInt8.toInt32)), .val (.int (14 : Int32))] [])
                              refine Win.st ?_ (fun tq kq => XS.iload X0.here hx rfl (hb hby d_jdk_43_method_23_7) rfl kq)
                              show Win p e below _ s₁ (mkF mt 9 #[.val (.ref b), .val (.int c), .val (.int (0 : Int32)), .val (.int (15 : Int32)), .val (.int (c.toInt8.toInt32)), .val (.int (14 : Int32))] [(.int (14 : Int32))])
                              refine Win.st ?_ (fun tq kq => XS.iloadN X0.here hx rfl (hb hby d_jdk_43_method_23_9) rfl kq)
                              show Win p e below _ s₁ (mkF mt 10 #[.val (.ref b), .val (.int c), .val (.int (0 : Int32)), .val (.int (15 : Int32)), .val (.int (c.toInt8.toInt32)), .val (.int (14 : Int32))] [(.int (15 : Int32)), (.int (14 : Int32))])
                              refine Win.st ?_ (fun tq kq => XS.icmpNo X0.here hx rfl (hb hby d_jdk_43_method_23_10) rfl (tlt (by decide : (14 : Int32) < (15 : Int32))).2.1 kq)
                              show Win p e below _ s₁ (mkF mt 13 #[.val (.ref b), .val (.int c), .val (.int (0 : Int32)), .val (.int (15 : Int32)), .val (.int (c.toInt8.toInt32)), .val (.int (14 : Int32))] [])
                              refine Win.st ?_ (fun tq kq => XS.aloadN X0.here hx rfl (hb hby d_jdk_43_method_23_13) rfl rfl kq)
                              show Win p e below _ s₁ (mkF mt 14 #[.val (.ref b), .val (.int c), .val (.int (0 : Int32)), .val (.int (15 : Int32)), .val (.int (c.toInt8.toInt32)), .val (.int (14 : Int32))] [(.ref b)])
                              refine Win.st ?_ (fun tq kq => XS.iload X0.here hx rfl (hb hby d_jdk_43_method_23_14) rfl kq)
                              show Win p e below _ s₁ (mkF mt 16 #[.val (.ref b), .val (.int c), .val (.int (0 : Int32)), .val (.int (15 : Int32)), .val (.int (c.toInt8.toInt32)), .val (.int (14 : Int32))] [(.int (14 : Int32)), (.ref b)])
                              refine Win.st ?_ (own_bald (g := (mkF mt 16 #[.val (.ref b), .val (.int c), .val (.int (0 : Int32)), .val (.int (15 : Int32)), .val (.int (c.toInt8.toInt32)), .val (.int (14 : Int32))] [(.int (14 : Int32)), (.ref b)])) X0 hx hZ e0 VB (j := (14 : Int32)) (v := (.int (126 : Int32))) (by decide) (by decide) rfl rfl rfl (hb hby d_jdk_43_method_23_16))
                              show Win p e below _ s₁ (mkF mt 17 #[.val (.ref b), .val (.int c), .val (.int (0 : Int32)), .val (.int (15 : Int32)), .val (.int (c.toInt8.toInt32)), .val (.int (14 : Int32))] [(.int (126 : Int32))])
                              refine Win.st ?_ (fun tq kq => XS.iload X0.here hx rfl (hb hby d_jdk_43_method_23_17) rfl kq)
                              show Win p e below _ s₁ (mkF mt 19 #[.val (.ref b), .val (.int c), .val (.int (0 : Int32)), .val (.int (15 : Int32)), .val (.int (c.toInt8.toInt32)), .val (.int (14 : Int32))] [(.int (c.toInt8.toInt32)), (.int (126 : Int32))])
                              by_cases hc19_31 : (126 : Int32) = (c.toInt8.toInt32)
                              · refine Win.st ?_ (fun tq kq => XS.icmpNo X0.here hx rfl (hb hby d_jdk_43_method_23_19) rfl (teq hc19_31).2 kq)
                                show Win p e below _ s₁ (mkF mt 22 #[.val (.ref b), .val (.int c), .val (.int (0 : Int32)), .val (.int (15 : Int32)), .val (.int (c.toInt8.toInt32)), .val (.int (14 : Int32))] [])
                                refine Win.st ?_ (fun tq kq => XS.iload X0.here hx rfl (hb hby d_jdk_43_method_23_22) rfl kq)
                                show Win p e below _ s₁ (mkF mt 24 #[.val (.ref b), .val (.int c), .val (.int (0 : Int32)), .val (.int (15 : Int32)), .val (.int (c.toInt8.toInt32)), .val (.int (14 : Int32))] [(.int (14 : Int32))])
                                exact Win.ret X0 hx hlk e0 hrt rfl (Or.inl ⟨rfl, Or.inl rfl, _, rfl⟩) (hb hby d_jdk_43_method_23_24) (by decide) (by decide) ⟨_, rfl, N0, rfl, ⟨fun q => absurd q (by decide), fun q => absurd (own_bk hcB ⟨by decide, by decide⟩ hc19_31 (by decide)) (q.2.2.2.2.2.2.2.2.2.2.2.2.2.2)⟩⟩
                              · refine Win.st ?_ (fun tq kq => XS.icmpYes X0.here hx rfl (pc0 := 19) (pc' := 25) rfl (hb hby d_jdk_43_method_23_19) rfl (feq hc19_31).2 (by decide) (by decide) kq)
                                show Win p e below _ s₁ (mkF mt 25 #[.val (.ref b), .val (.int c), .val (.int (0 : Int32)), .val (.int (15 : Int32)), .val (.int (c.toInt8.toInt32)), .val (.int (14 : Int32))] [])
                                refine Win.st ?_ (fun tq kq => XS.iinc X0.here hx rfl (hb hby d_jdk_43_method_23_25) rfl (l' := #[.val (.ref b), .val (.int c), .val (.int (0 : Int32)), .val (.int (15 : Int32)), .val (.int (c.toInt8.toInt32)), .val (.int (15 : Int32))]) rfl kq)
                                show Win p e below _ s₁ (mkF mt 28 #[.val (.ref b), .val (.int c), .val (.int (0 : Int32)), .val (.int (15 : Int32)), .val (.int (c.toInt8.toInt32)), .val (.int (15 : Int32))] [])
                                refine Win.st ?_ (fun tq kq => XS.goto X0.here hx rfl (pc0 := 28) (pc' := 7) rfl (hb hby d_jdk_43_method_23_28) (by decide) (by decide) kq)
                                show Win p e below _ s₁ (mkF mt 7 #[.val (.ref b), .val (.int c), .val (.int (0 : Int32)), .val (.int (15 : Int32)), .val (.int (c.toInt8.toInt32)), .val (.int (15 : Int32))] [])
                                refine Win.st ?_ (fun tq kq => XS.iload X0.here hx rfl (hb hby d_jdk_43_method_23_7) rfl kq)
                                show Win p e below _ s₁ (mkF mt 9 #[.val (.ref b), .val (.int c), .val (.int (0 : Int32)), .val (.int (15 : Int32)), .val (.int (c.toInt8.toInt32)), .val (.int (15 : Int32))] [(.int (15 : Int32))])
                                refine Win.st ?_ (fun tq kq => XS.iloadN X0.here hx rfl (hb hby d_jdk_43_method_23_9) rfl kq)
                                show Win p e below _ s₁ (mkF mt 10 #[.val (.ref b), .val (.int c), .val (.int (0 : Int32)), .val (.int (15 : Int32)), .val (.int (c.toInt8.toInt32)), .val (.int (15 : Int32))] [(.int (15 : Int32)), (.int (15 : Int32))])
                                refine Win.st ?_ (fun tq kq => XS.icmpYes X0.here hx rfl (pc0 := 10) (pc' := 31) rfl (hb hby d_jdk_43_method_23_10) rfl (flt (Int32.lt_irrefl)).2.1 (by decide) (by decide) kq)
                                show Win p e below _ s₁ (mkF mt 31 #[.val (.ref b), .val (.int c), .val (.int (0 : Int32)), .val (.int (15 : Int32)), .val (.int (c.toInt8.toInt32)), .val (.int (15 : Int32))] [])
                                refine Win.st ?_ (fun tq kq => XS.iconst X0.here hx rfl (hb hby d_jdk_43_method_23_31) kq)
                                show Win p e below _ s₁ (mkF mt 32 #[.val (.ref b), .val (.int c), .val (.int (0 : Int32)), .val (.int (15 : Int32)), .val (.int (c.toInt8.toInt32)), .val (.int (15 : Int32))] [(.int (-1 : Int32))])
                                exact Win.ret X0 hx hlk e0 hrt rfl (Or.inl ⟨rfl, Or.inl rfl, _, rfl⟩) (hb hby d_jdk_43_method_23_32) (by decide) (by decide) ⟨_, rfl, N0, rfl, ⟨fun _ => ⟨fun q => hc19 (by rw [q]; decide), fun q => hc19_18 (by rw [q]; decide), fun q => hc19_19 (by rw [q]; decide), fun q => hc19_20 (by rw [q]; decide), fun q => hc19_21 (by rw [q]; decide), fun q => hc19_22 (by rw [q]; decide), fun q => hc19_23 (by rw [q]; decide), fun q => hc19_24 (by rw [q]; decide), fun q => hc19_25 (by rw [q]; decide), fun q => hc19_26 (by rw [q]; decide), fun q => hc19_27 (by rw [q]; decide), fun q => hc19_28 (by rw [q]; decide), fun q => hc19_29 (by rw [q]; decide), fun q => hc19_30 (by rw [q]; decide), fun q => hc19_31 (by rw [q]; decide)⟩, fun _ => by decide⟩⟩
theorem d_jdk_43_method_22_0 : decode jdk_43_method_22_code 0 = .ok (.iload_n 1, 1) := by decide +kernel
theorem d_jdk_43_method_22_1 : decode jdk_43_method_22_code 1 = .ok (.invokestatic 88, 3) := by decide +kernel
theorem pd_2 : parseMethodDescriptor "(I)Z" = some ⟨[.int], some .boolean⟩ := by decide +kernel
theorem d_jdk_43_method_22_4 : decode jdk_43_method_22_code 4 = .ok (.ifCond .ne 5, 3) := by decide +kernel
theorem d_jdk_43_method_22_7 : decode jdk_43_method_22_code 7 = .ok (.iconst (-1), 1) := by decide +kernel
theorem d_jdk_43_method_22_8 : decode jdk_43_method_22_code 8 = .ok (.ireturn, 1) := by decide +kernel
theorem d_jdk_43_method_22_9 : decode jdk_43_method_22_code 9 = .ok (.iload_n 2, 1) := by decide +kernel
theorem d_jdk_43_method_22_10 : decode jdk_43_method_22_code 10 = .ok (.iconst 0, 1) := by decide +kernel
theorem d_jdk_43_method_22_11 : decode jdk_43_method_22_code 11 = .ok (.invokestatic 92, 3) := by decide +kernel
theorem pd_3 : parseMethodDescriptor "(II)I" = some ⟨[.int, .int], some .int⟩ := by decide +kernel
theorem d_jdk_43_method_22_14 : decode jdk_43_method_22_code 14 = .ok (.istore_n 2, 1) := by decide +kernel
theorem d_jdk_43_method_22_15 : decode jdk_43_method_22_code 15 = .ok (.iload_n 3, 1) := by decide +kernel
theorem d_jdk_43_method_22_16 : decode jdk_43_method_22_code 16 = .ok (.aload_n 0, 1) := by decide +kernel
theorem d_jdk_43_method_22_17 : decode jdk_43_method_22_code 17 = .ok (.arraylength, 1) := by decide +kernel
theorem d_jdk_43_method_22_18 : decode jdk_43_method_22_code 18 = .ok (.invokestatic 38, 3) := by decide +kernel
theorem d_jdk_43_method_22_21 : decode jdk_43_method_22_code 21 = .ok (.istore_n 3, 1) := by decide +kernel
theorem d_jdk_43_method_22_22 : decode jdk_43_method_22_code 22 = .ok (.iload_n 2, 1) := by decide +kernel
theorem d_jdk_43_method_22_23 : decode jdk_43_method_22_code 23 = .ok (.iload_n 3, 1) := by decide +kernel
theorem d_jdk_43_method_22_24 : decode jdk_43_method_22_code 24 = .ok (.if_icmp .lt 5, 3) := by decide +kernel
theorem d_jdk_43_method_22_29 : decode jdk_43_method_22_code 29 = .ok (.aload_n 0, 1) := by decide +kernel
theorem d_jdk_43_method_22_30 : decode jdk_43_method_22_code 30 = .ok (.iload_n 1, 1) := by decide +kernel
theorem d_jdk_43_method_22_31 : decode jdk_43_method_22_code 31 = .ok (.iload_n 2, 1) := by decide +kernel
theorem d_jdk_43_method_22_32 : decode jdk_43_method_22_code 32 = .ok (.iload_n 3, 1) := by decide +kernel
theorem d_jdk_43_method_22_33 : decode jdk_43_method_22_code 33 = .ok (.invokestatic 95, 3) := by decide +kernel
theorem pd_4 : parseMethodDescriptor "([BIII)I" = some ⟨[(.array .byte), .int, .int, .int], some .int⟩ := by decide +kernel
theorem d_jdk_43_method_22_36 : decode jdk_43_method_22_code 36 = .ok (.ireturn, 1) := by decide +kernel
theorem ef_lio (mt : MethodId) (b : Addr) (c : Int32) : entryFrame mt #[(.ref b), (.int c), (.int (0 : Int32)), (.int (15 : Int32))] 4 = mkF mt 0 #[.val (.ref b), .val (.int c), .val (.int (0 : Int32)), .val (.int (15 : Int32))] [] := by first | (simp [entryFrame, mkF, argsToLocals, Value.category]; done) | rfl
def Q_lio (Z : State) (b : Addr) (c : Int32) (kb : ClassId) (h0 : Heap) (n0 : Nat) (v : Option Value) (h : Heap) (L : List Loc) : Prop := ∃ r : Int32, v = some (.int r) ∧ Fr n0 L ∧ h = h0 ∧ (r < 0 ↔ (¬ (c = (33 : Int32)) ∧ ¬ (c = (35 : Int32)) ∧ ¬ (c = (36 : Int32)) ∧ ¬ (c = (37 : Int32)) ∧ ¬ (c = (38 : Int32)) ∧ ¬ (c = (39 : Int32)) ∧ ¬ (c = (42 : Int32)) ∧ ¬ (c = (43 : Int32)) ∧ ¬ (c = (45 : Int32)) ∧ ¬ (c = (46 : Int32)) ∧ ¬ (c = (94 : Int32)) ∧ ¬ (c = (95 : Int32)) ∧ ¬ (c = (96 : Int32)) ∧ ¬ (c = (124 : Int32)) ∧ ¬ (c = (126 : Int32))))
set_option maxRecDepth 65536 in
set_option maxHeartbeats 40000000 in
theorem rm_lio (l : Launch) (Z : State) (a0 : Array Value) (hw : ∀ d ∈ tables_1, d.before a0 Z = true) (ws : List Jvm.Cond) (b : Addr) (c : Int32) (kb : ClassId) (h0 : Heap) (n0 : Nat) (Z0 : n0 ≤ h0.size) (VB : Arv Z h0 b kb .byte (15 : Int32) [(.int (33 : Int32)), (.int (35 : Int32)), (.int (36 : Int32)), (.int (37 : Int32)), (.int (38 : Int32)), (.int (39 : Int32)), (.int (42 : Int32)), (.int (43 : Int32)), (.int (45 : Int32)), (.int (46 : Int32)), (.int (94 : Int32)), (.int (95 : Int32)), (.int (96 : Int32)), (.int (124 : Int32)), (.int (126 : Int32))] (.int (0 : Int32))) (hc0 : 0 ≤ c.toInt) :
    MetFree l (⟨"java/lang/StringLatin1", "indexOf", "([BIII)I"⟩ : MethodName) (head1 (Jvm.Cond.code (⟨"java/lang/StringLatin1", "indexOf", "([BIII)I"⟩ : MethodName) jdk_43_method_22_code 4 (some .int) :: ws) ({ frames := 1, cells := 0, slots := 0, locals := 17 } : Room)) (fun aa UU => aa = #[(.ref b), (.int c), (.int (0 : Int32)), (.int (15 : Int32))] ∧ Z.Warmed39 UU.vm ∧ UU.heap = h0) (fun _ _ _ _ _ => True) (fun _ UU oo UU' => ∃ vv LL, oo = .returned vv ∧ Q_lio Z b c kb h0 n0 vv UU'.heap LL ∧ FrameEnd UU oo UU' LL ({ frames := 1, cells := 0, slots := 0, locals := 17 } : Room).cells ({ frames := 1, cells := 0, slots := 0, locals := 17 } : Room).slots) := by
  refine MetFree.of_bodySF (plainFor_of_name pn_3) hisR ?_
  intro p e s mt args below meth cd s₁ Bd hml0 hP hK
  obtain ⟨hA, hZ, hh⟩ := hP
  have hx := Bd.exec
  have hby := Bd.bytes
  have hml : cd.maxLocals = 4 := hml0
  have hown : s.vm.findClass "java/lang/StringLatin1" = some mt.cls := findClass_of_methodNamed Bd.named
  have hnm := (name_of_methodNamed Bd.named Bd.method).1
  have hlk : meth.locks = false := BodyLoose.notSynchronized Bd
  have hrt := Bd.returns
  have X0 : Stand p l e ({ frames := 1, cells := 0, slots := 0, locals := 17 } : Room) s mt args below meth cd s₁ [] 0 0 := Stand.of_body Bd
  have e0 : s₁.heap = h0 := by rw [← hh, Bd.state]; rfl
  have N0 := Fr.nil n0
  show Win p e below (Ends s (Q_lio Z b c kb h0 n0) ({ frames := 1, cells := 0, slots := 0, locals := 17 } : Room).cells ({ frames := 1, cells := 0, slots := 0, locals := 17 } : Room).slots) s₁ (entryFrame mt args 4)
  rw [hA, ef_lio]
  refine Win.st ?_ (fun tq kq => XS.iloadN X0.here hx rfl (hb hby d_jdk_43_method_22_0) rfl kq)
  show Win p e below _ s₁ (mkF mt 1 #[.val (.ref b), .val (.int c), .val (.int (0 : Int32)), .val (.int (15 : Int32))] [(.int c)])
  obtain ⟨v32, _, ⟨T32, L32, k32, n32⟩, -, X32, ⟨Lc32, hQ32, l32, y32, z32⟩, st32⟩ := Jvm.LawKit.callS X0 hx (y := (⟨"java/lang/StringLatin1", "canEncode", "(I)Z"⟩ : MethodName)) hown (mvT hZ (hw _ (List.mem_of_getElem? (i := 54) rfl))) (mvT hZ (hw _ (List.mem_of_getElem? (i := 55) rfl))) (mvT hZ (hw _ (List.mem_of_getElem? (i := 52) rfl))) (mvT hZ (hw _ (List.mem_of_getElem? (i := 56) rfl))) (by decide) (backOf (W := 0) (rm_cei l Z a0 hw [] c h0 n0 Z0 (own_nlt (by rw [own_i0]; exact hc0))) hZ (hw _ (List.mem_of_getElem? (i := 56) rfl)) (hw _ (List.mem_of_getElem? (i := 52) rfl)) (by decide) (by decide)) (g := (mkF mt 1 #[.val (.ref b), .val (.int c), .val (.int (0 : Int32)), .val (.int (15 : Int32))] [(.int c)])) rfl (by rw [hml]; rfl) (argsL := [(.int c)]) (rest := []) (lenOf pd_2 rfl) rfl (by show 2 * 0 + _ ≤ _; exact Nat.le_of_eq rfl) (hb hby d_jdk_43_method_22_1) (fun _ _ => ⟨rfl, e0, (by decide : 0 + 0 ≤ _), (by decide : 0 + 0 ≤ _)⟩)
  dsimp only [Pt.U, Pt.locs, Pt.cells, Pt.slots] at X32 l32 y32 z32 st32 hQ32
  subst y32 z32
  replace X32 : Stand p l e _ s mt args below meth cd T32 L32 0 0 := X32
  obtain ⟨h32, e32⟩ : ∃ z, T32.heap = z := ⟨_, rfl⟩
  rw [e32] at hQ32
  obtain ⟨rfl, Nq32, eh32⟩ := hQ32
  have N32 : Fr n0 L32 := by rw [l32]; exact Fr.app N0 Nq32
  rw [eh32] at e32
  refine Win.st ?_ st32
  show Win p e below _ T32 (mkF mt 4 #[.val (.ref b), .val (.int c), .val (.int (0 : Int32)), .val (.int (15 : Int32))] [(.int (if (255 : Int32) < c then (0 : Int32) else 1))])
  by_cases hbig : (255 : Int32) < c
  · rw [if_pos hbig]
    show Win p e below _ T32 (mkF mt 4 #[.val (.ref b), .val (.int c), .val (.int (0 : Int32)), .val (.int (15 : Int32))] [(.int (0 : Int32))])
    refine Win.st ?_ (fun tq kq => XS.ifNo X32.here hx rfl (hb hby d_jdk_43_method_22_4) rfl ((if0 _ _).trans (teq (rfl : (0 : Int32) = (0 : Int32))).2) kq)
    show Win p e below _ T32 (mkF mt 7 #[.val (.ref b), .val (.int c), .val (.int (0 : Int32)), .val (.int (15 : Int32))] [])
    refine Win.st ?_ (fun tq kq => XS.iconst X32.here hx rfl (hb hby d_jdk_43_method_22_7) kq)
    show Win p e below _ T32 (mkF mt 8 #[.val (.ref b), .val (.int c), .val (.int (0 : Int32)), .val (.int (15 : Int32))] [(.int (-1 : Int32))])
    exact Win.ret X32 hx hlk e32 hrt rfl (Or.inl ⟨rfl, Or.inl rfl, _, rfl⟩) (hb hby d_jdk_43_method_22_8) (by decide) (by decide) ⟨_, rfl, N32, rfl, ⟨fun _ => (by
      have q := Int32.lt_iff_toInt_lt.mp hbig
      rw [own_i255] at q
      exact ⟨own_nek (by rw [show (33 : Int32).toInt = 33 from by decide]; omega), own_nek (by rw [show (35 : Int32).toInt = 35 from by decide]; omega), own_nek (by rw [show (36 : Int32).toInt = 36 from by decide]; omega), own_nek (by rw [show (37 : Int32).toInt = 37 from by decide]; omega), own_nek (by rw [show (38 : Int32).toInt = 38 from by decide]; omega), own_nek (by rw [show (39 : Int32).toInt = 39 from by decide]; omega), own_nek (by rw [show (42 : Int32).toInt = 42 from by decide]; omega), own_nek (by rw [show (43 : Int32).toInt = 43 from by decide]; omega), own_nek (by rw [show (45 : Int32).toInt = 45 from by decide]; omega), own_nek (by rw [show (46 : Int32).toInt = 46 from by decide]; omega), own_nek (by rw [show (94 : Int32).toInt = 94 from by decide]; omega), own_nek (by rw [show (95 : Int32).toInt = 95 from by decide]; omega), own_nek (by rw [show (96 : Int32).toInt = 96 from by decide]; omega), own_nek (by rw [show (124 : Int32).toInt = 124 from by decide]; omega), own_nek (by rw [show (126 : Int32).toInt = 126 from by decide]; omega)⟩), fun _ => by decide⟩⟩
  · rw [if_neg hbig]
    show Win p e below _ T32 (mkF mt 4 #[.val (.ref b), .val (.int c), .val (.int (0 : Int32)), .val (.int (15 : Int32))] [(.int (1 : Int32))])
    refine Win.st ?_ (fun tq kq => XS.ifYes X32.here hx rfl (pc0 := 4) (pc' := 9) rfl (hb hby d_jdk_43_method_22_4) rfl ((if0 _ _).trans (feq (by decide : ¬ ((1 : Int32) = (0 : Int32)))).2) (by decide) (by decide) kq)
    show Win p e below _ T32 (mkF mt 9 #[.val (.ref b), .val (.int c), .val (.int (0 : Int32)), .val (.int (15 : Int32))] [])
    refine Win.st ?_ (fun tq kq => XS.iloadN X32.here hx rfl (hb hby d_jdk_43_method_22_9) rfl kq)
    show Win p e below _ T32 (mkF mt 10 #[.val (.ref b), .val (.int c), .val (.int (0 : Int32)), .val (.int (15 : Int32))] [(.int (0 : Int32))])
    refine Win.st ?_ (fun tq kq => XS.iconst X32.here hx rfl (hb hby d_jdk_43_method_22_10) kq)
    show Win p e below _ T32 (mkF mt 11 #[.val (.ref b), .val (.int c), .val (.int (0 : Int32)), .val (.int (15 : Int32))] [(.int (0 : Int32)), (.int (0 : Int32))])
    obtain ⟨v33, _, ⟨T33, L33, k33, n33⟩, -, X33, ⟨Lc33, hQ33, l33, y33, z33⟩, st33⟩ := Jvm.LawKit.callS X32 hx (y := (⟨"java/lang/Math", "max", "(II)I"⟩ : MethodName)) hown (mvT hZ (hw _ (List.mem_of_getElem? (i := 57) rfl))) (mvT hZ (hw _ (List.mem_of_getElem? (i := 58) rfl))) (mvT hZ (hw _ (List.mem_of_getElem? (i := 59) rfl))) (mvT hZ (hw _ (List.mem_of_getElem? (i := 60) rfl))) (by decide) (backOf (W := 0) (rm_max l Z a0 hw [] (0 : Int32) (0 : Int32) h0 n0 Z0 ) hZ (hw _ (List.mem_of_getElem? (i := 60) rfl)) (hw _ (List.mem_of_getElem? (i := 59) rfl)) (by decide) (by decide)) (g := (mkF mt 11 #[.val (.ref b), .val (.int c), .val (.int (0 : Int32)), .val (.int (15 : Int32))] [(.int (0 : Int32)), (.int (0 : Int32))])) rfl (by rw [hml]; rfl) (argsL := [(.int (0 : Int32)), (.int (0 : Int32))]) (rest := []) (lenOf pd_3 rfl) rfl (by show 2 * 0 + _ ≤ _; exact Nat.le_of_eq rfl) (hb hby d_jdk_43_method_22_11) (fun _ _ => ⟨rfl, e32, (by decide : 0 + 0 ≤ _), (by decide : 0 + 0 ≤ _)⟩)
    dsimp only [Pt.U, Pt.locs, Pt.cells, Pt.slots] at X33 l33 y33 z33 st33 hQ33
    subst y33 z33
    replace X33 : Stand p l e _ s mt args below meth cd T33 L33 0 0 := X33
    obtain ⟨h33, e33⟩ : ∃ z, T33.heap = z := ⟨_, rfl⟩
    rw [e33] at hQ33
    obtain ⟨rfl, Nq33, eh33⟩ := hQ33
    have N33 : Fr n0 L33 := by rw [l33]; exact Fr.app N32 Nq33
    rw [eh33] at e33
    rw [show own_max (0 : Int32) (0 : Int32) = (0 : Int32) from by decide] at st33
    refine Win.st ?_ st33
    show Win p e below _ T33 (mkF mt 14 #[.val (.ref b), .val (.int c), .val (.int (0 : Int32)), .val (.int (15 : Int32))] [(.int (0 : Int32))])
    refine Win.st ?_ (fun tq kq => XS.istoreN X33.here hx rfl (hb hby d_jdk_43_method_22_14) rfl (l' := #[.val (.ref b), .val (.int c), .val (.int (0 : Int32)), .val (.int (15 : Int32))]) rfl kq)
    show Win p e below _ T33 (mkF mt 15 #[.val (.ref b), .val (.int c), .val (.int (0 : Int32)), .val (.int (15 : Int32))] [])
    refine Win.st ?_ (fun tq kq => XS.iloadN X33.here hx rfl (hb hby d_jdk_43_method_22_15) rfl kq)
    show Win p e below _ T33 (mkF mt 16 #[.val (.ref b), .val (.int c), .val (.int (0 : Int32)), .val (.int (15 : Int32))] [(.int (15 : Int32))])
    refine Win.st ?_ (fun tq kq => XS.aloadN X33.here hx rfl (hb hby d_jdk_43_method_22_16) rfl rfl kq)
    show Win p e below _ T33 (mkF mt 17 #[.val (.ref b), .val (.int c), .val (.int (0 : Int32)), .val (.int (15 : Int32))] [(.ref b), (.int (15 : Int32))])
    refine Win.st ?_ (own_alen (g := (mkF mt 17 #[.val (.ref b), .val (.int c), .val (.int (0 : Int32)), .val (.int (15 : Int32))] [(.ref b), (.int (15 : Int32))])) X33 hx hZ e33 VB rfl rfl (hb hby d_jdk_43_method_22_17))
    show Win p e below _ T33 (mkF mt 18 #[.val (.ref b), .val (.int c), .val (.int (0 : Int32)), .val (.int (15 : Int32))] [(.int (15 : Int32)), (.int (15 : Int32))])
    obtain ⟨v34, _, ⟨T34, L34, k34, n34⟩, -, X34, ⟨Lc34, hQ34, l34, y34, z34⟩, st34⟩ := Jvm.LawKit.callS X33 hx (y := (⟨"java/lang/Math", "min", "(II)I"⟩ : MethodName)) hown (mvT hZ (hw _ (List.mem_of_getElem? (i := 61) rfl))) (mvT hZ (hw _ (List.mem_of_getElem? (i := 62) rfl))) (mvT hZ (hw _ (List.mem_of_getElem? (i := 59) rfl))) (mvT hZ (hw _ (List.mem_of_getElem? (i := 63) rfl))) (by decide) (backOf (W := 0) (rm_min l Z a0 hw [] (15 : Int32) (15 : Int32) h0 n0 Z0 ) hZ (hw _ (List.mem_of_getElem? (i := 63) rfl)) (hw _ (List.mem_of_getElem? (i := 59) rfl)) (by decide) (by decide)) (g := (mkF mt 18 #[.val (.ref b), .val (.int c), .val (.int (0 : Int32)), .val (.int (15 : Int32))] [(.int (15 : Int32)), (.int (15 : Int32))])) rfl (by rw [hml]; rfl) (argsL := [(.int (15 : Int32)), (.int (15 : Int32))]) (rest := []) (lenOf pd_3 rfl) rfl (by show 2 * 0 + _ ≤ _; exact Nat.le_of_eq rfl) (hb hby d_jdk_43_method_22_18) (fun _ _ => ⟨rfl, e33, (by decide : 0 + 0 ≤ _), (by decide : 0 + 0 ≤ _)⟩)
    dsimp only [Pt.U, Pt.locs, Pt.cells, Pt.slots] at X34 l34 y34 z34 st34 hQ34
    subst y34 z34
    replace X34 : Stand p l e _ s mt args below meth cd T34 L34 0 0 := X34
    obtain ⟨h34, e34⟩ : ∃ z, T34.heap = z := ⟨_, rfl⟩
    rw [e34] at hQ34
    obtain ⟨rfl, Nq34, eh34⟩ := hQ34
    have N34 : Fr n0 L34 := by rw [l34]; exact Fr.app N33 Nq34
    rw [eh34] at e34
    rw [show own_min (15 : Int32) (15 : Int32) = (15 : Int32) from by decide] at st34
    refine Win.st ?_ st34
    show Win p e below _ T34 (mkF mt 21 #[.val (.ref b), .val (.int c), .val (.int (0 : Int32)), .val (.int (15 : Int32))] [(.int (15 : Int32))])
    refine Win.st ?_ (fun tq kq => XS.istoreN X34.here hx rfl (hb hby d_jdk_43_method_22_21) rfl (l' := #[.val (.ref b), .val (.int c), .val (.int (0 : Int32)), .val (.int (15 : Int32))]) rfl kq)
    show Win p e below _ T34 (mkF mt 22 #[.val (.ref b), .val (.int c), .val (.int (0 : Int32)), .val (.int (15 : Int32))] [])
    refine Win.st ?_ (fun tq kq => XS.iloadN X34.here hx rfl (hb hby d_jdk_43_method_22_22) rfl kq)
    show Win p e below _ T34 (mkF mt 23 #[.val (.ref b), .val (.int c), .val (.int (0 : Int32)), .val (.int (15 : Int32))] [(.int (0 : Int32))])
    refine Win.st ?_ (fun tq kq => XS.iloadN X34.here hx rfl (hb hby d_jdk_43_method_22_23) rfl kq)
    show Win p e below _ T34 (mkF mt 24 #[.val (.ref b), .val (.int c), .val (.int (0 : Int32)), .val (.int (15 : Int32))] [(.int (15 : Int32)), (.int (0 : Int32))])
    refine Win.st ?_ (fun tq kq => XS.icmpYes X34.here hx rfl (pc0 := 24) (pc' := 29) rfl (hb hby d_jdk_43_method_22_24) rfl (tlt (by decide : (0 : Int32) < (15 : Int32))).1 (by decide) (by decide) kq)
    show Win p e below _ T34 (mkF mt 29 #[.val (.ref b), .val (.int c), .val (.int (0 : Int32)), .val (.int (15 : Int32))] [])
    refine Win.st ?_ (fun tq kq => XS.aloadN X34.here hx rfl (hb hby d_jdk_43_method_22_29) rfl rfl kq)
    show Win p e below _ T34 (mkF mt 30 #[.val (.ref b), .val (.int c), .val (.int (0 : Int32)), .val (.int (15 : Int32))] [(.ref b)])
    refine Win.st ?_ (fun tq kq => XS.iloadN X34.here hx rfl (hb hby d_jdk_43_method_22_30) rfl kq)
    show Win p e below _ T34 (mkF mt 31 #[.val (.ref b), .val (.int c), .val (.int (0 : Int32)), .val (.int (15 : Int32))] [(.int c), (.ref b)])
    refine Win.st ?_ (fun tq kq => XS.iloadN X34.here hx rfl (hb hby d_jdk_43_method_22_31) rfl kq)
    show Win p e below _ T34 (mkF mt 32 #[.val (.ref b), .val (.int c), .val (.int (0 : Int32)), .val (.int (15 : Int32))] [(.int (0 : Int32)), (.int c), (.ref b)])
    refine Win.st ?_ (fun tq kq => XS.iloadN X34.here hx rfl (hb hby d_jdk_43_method_22_32) rfl kq)
    show Win p e below _ T34 (mkF mt 33 #[.val (.ref b), .val (.int c), .val (.int (0 : Int32)), .val (.int (15 : Int32))] [(.int (15 : Int32)), (.int (0 : Int32)), (.int c), (.ref b)])
    obtain ⟨v35, _, ⟨T35, L35, k35, n35⟩, -, X35, ⟨Lc35, hQ35, l35, y35, z35⟩, st35⟩ := Jvm.LawKit.callS X34 hx (y := (⟨"java/lang/StringLatin1", "indexOfChar", "([BIII)I"⟩ : MethodName)) hown (mvT hZ (hw _ (List.mem_of_getElem? (i := 64) rfl))) (mvT hZ (hw _ (List.mem_of_getElem? (i := 65) rfl))) (mvT hZ (hw _ (List.mem_of_getElem? (i := 52) rfl))) (mvT hZ (hw _ (List.mem_of_getElem? (i := 66) rfl))) (by decide) (backOf (W := 0) (rm_ioc l Z a0 hw [] b c kb h0 n0 Z0 VB ⟨hc0, by have q := own_of_nlt hbig; rw [own_i255] at q; exact q⟩) hZ (hw _ (List.mem_of_getElem? (i := 66) rfl)) (hw _ (List.mem_of_getElem? (i := 52) rfl)) (by decide) (by decide)) (g := (mkF mt 33 #[.val (.ref b), .val (.int c), .val (.int (0 : Int32)), .val (.int (15 : Int32))] [(.int (15 : Int32)), (.int (0 : Int32)), (.int c), (.ref b)])) rfl (by rw [hml]; rfl) (argsL := [(.ref b), (.int c), (.int (0 : Int32)), (.int (15 : Int32))]) (rest := []) (lenOf pd_4 rfl) rfl (by show 2 * 0 + _ ≤ _; exact Nat.le_of_eq rfl) (hb hby d_jdk_43_method_22_33) (fun _ _ => ⟨rfl, e34, (by decide : 0 + 0 ≤ _), (by decide : 0 + 0 ≤ _)⟩)
    dsimp only [Pt.U, Pt.locs, Pt.cells, Pt.slots] at X35 l35 y35 z35 st35 hQ35
    subst y35 z35
    replace X35 : Stand p l e _ s mt args below meth cd T35 L35 0 0 := X35
    obtain ⟨h35, e35⟩ : ∃ z, T35.heap = z := ⟨_, rfl⟩
    rw [e35] at hQ35
    obtain ⟨rr, rfl, Nq35, eh35, hr⟩ := hQ35
    have N35 : Fr n0 L35 := by rw [l35]; exact Fr.app N34 Nq35
    rw [eh35] at e35
    refine Win.st ?_ st35
    show Win p e below _ T35 (mkF mt 36 #[.val (.ref b), .val (.int c), .val (.int (0 : Int32)), .val (.int (15 : Int32))] [(.int rr)])
    exact Win.ret X35 hx hlk e35 hrt rfl (Or.inl ⟨rfl, Or.inl rfl, _, rfl⟩) (hb hby d_jdk_43_method_22_36) (by decide) (by decide) ⟨_, rfl, N35, rfl, hr⟩
theorem d_jdk_42_method_80_0 : decode jdk_42_method_80_code 0 = .ok (.aload_n 0, 1) := by decide +kernel
theorem d_jdk_42_method_80_1 : decode jdk_42_method_80_code 1 = .ok (.invokevirtual 492, 3) := by decide +kernel
theorem pd_5 : parseMethodDescriptor "()Z" = some ⟨[], some .boolean⟩ := by decide +kernel
theorem d_jdk_42_method_80_4 : decode jdk_42_method_80_code 4 = .ok (.ifCond .eq 19, 3) := by decide +kernel
theorem d_jdk_42_method_80_7 : decode jdk_42_method_80_code 7 = .ok (.aload_n 0, 1) := by decide +kernel
theorem d_jdk_42_method_80_8 : decode jdk_42_method_80_code 8 = .ok (.getfield 9, 3) := by decide +kernel
theorem d_jdk_42_method_80_11 : decode jdk_42_method_80_code 11 = .ok (.iload_n 1, 1) := by decide +kernel
theorem d_jdk_42_method_80_12 : decode jdk_42_method_80_code 12 = .ok (.iload_n 2, 1) := by decide +kernel
theorem d_jdk_42_method_80_13 : decode jdk_42_method_80_code 13 = .ok (.aload_n 0, 1) := by decide +kernel
theorem d_jdk_42_method_80_14 : decode jdk_42_method_80_code 14 = .ok (.invokevirtual 505, 3) := by decide +kernel
theorem pd_6 : parseMethodDescriptor "()I" = some ⟨[], some .int⟩ := by decide +kernel
theorem d_jdk_42_method_80_17 : decode jdk_42_method_80_code 17 = .ok (.invokestatic 637, 3) := by decide +kernel
theorem d_jdk_42_method_80_20 : decode jdk_42_method_80_code 20 = .ok (.goto 16, 3) := by decide +kernel
theorem d_jdk_42_method_80_36 : decode jdk_42_method_80_code 36 = .ok (.ireturn, 1) := by decide +kernel
theorem ef_io2 (mt : MethodId) (a : Addr) (c : Int32) : entryFrame mt #[(.ref a), (.int c), (.int (0 : Int32))] 3 = mkF mt 0 #[.val (.ref a), .val (.int c), .val (.int (0 : Int32))] [] := by first | (simp [entryFrame, mkF, argsToLocals, Value.category]; done) | rfl
def Q_io2 (Z : State) (a : Addr) (c : Int32) (b : Addr) (kb : ClassId) (cs : Int32) (h0 : Heap) (n0 : Nat) (v : Option Value) (h : Heap) (L : List Loc) : Prop := ∃ r : Int32, v = some (.int r) ∧ Fr n0 L ∧ h = h0 ∧ (r < 0 ↔ (¬ (c = (33 : Int32)) ∧ ¬ (c = (35 : Int32)) ∧ ¬ (c = (36 : Int32)) ∧ ¬ (c = (37 : Int32)) ∧ ¬ (c = (38 : Int32)) ∧ ¬ (c = (39 : Int32)) ∧ ¬ (c = (42 : Int32)) ∧ ¬ (c = (43 : Int32)) ∧ ¬ (c = (45 : Int32)) ∧ ¬ (c = (46 : Int32)) ∧ ¬ (c = (94 : Int32)) ∧ ¬ (c = (95 : Int32)) ∧ ¬ (c = (96 : Int32)) ∧ ¬ (c = (124 : Int32)) ∧ ¬ (c = (126 : Int32))))
set_option maxRecDepth 65536 in
set_option maxHeartbeats 40000000 in
theorem rm_io2 (l : Launch) (Z : State) (a0 : Array Value) (hw : ∀ d ∈ tables_1, d.before a0 Z = true) (ws : List Jvm.Cond) (a : Addr) (c : Int32) (b : Addr) (kb : ClassId) (cs : Int32) (h0 : Heap) (n0 : Nat) (Z0 : n0 ≤ h0.size) (E : Exa Z h0 a "java/lang/String") (Fv : Fld Z h0 a "java/lang/String" "value" "[B" (.ref b)) (Fc : Fld Z h0 a "java/lang/String" "coder" "B" (.int (0 : Int32))) (VB : Arv Z h0 b kb .byte (15 : Int32) [(.int (33 : Int32)), (.int (35 : Int32)), (.int (36 : Int32)), (.int (37 : Int32)), (.int (38 : Int32)), (.int (39 : Int32)), (.int (42 : Int32)), (.int (43 : Int32)), (.int (45 : Int32)), (.int (46 : Int32)), (.int (94 : Int32)), (.int (95 : Int32)), (.int (96 : Int32)), (.int (124 : Int32)), (.int (126 : Int32))] (.int (0 : Int32))) (S0 : Sta Z Z.heap "java/lang/String" "COMPACT_STRINGS" "Z" (.int cs)) (hcs : ¬ cs = (0 : Int32)) (O : Old Z n0 h0) (hc0 : 0 ≤ c.toInt) :
    MetFree l (⟨"java/lang/String", "indexOf", "(II)I"⟩ : MethodName) (head1 (Jvm.Cond.code (⟨"java/lang/String", "indexOf", "(II)I"⟩ : MethodName) jdk_42_method_80_code 3 (some .int) :: ws) ({ frames := 2, cells := 0, slots := 0, locals := 32 } : Room)) (fun aa UU => aa = #[(.ref a), (.int c), (.int (0 : Int32))] ∧ Z.Warmed39 UU.vm ∧ UU.heap = h0) (fun _ _ _ _ _ => True) (fun _ UU oo UU' => ∃ vv LL, oo = .returned vv ∧ Q_io2 Z a c b kb cs h0 n0 vv UU'.heap LL ∧ FrameEnd UU oo UU' LL ({ frames := 2, cells := 0, slots := 0, locals := 32 } : Room).cells ({ frames := 2, cells := 0, slots := 0, locals := 32 } : Room).slots) := by
  refine MetFree.of_bodySF (plainFor_of_name pn_0) hisR ?_
  intro p e s mt args below meth cd s₁ Bd hml0 hP hK
  obtain ⟨hA, hZ, hh⟩ := hP
  have hx := Bd.exec
  have hby := Bd.bytes
  have hml : cd.maxLocals = 3 := hml0
  have hown : s.vm.findClass "java/lang/String" = some mt.cls := findClass_of_methodNamed Bd.named
  have hnm := (name_of_methodNamed Bd.named Bd.method).1
  have hlk : meth.locks = false := BodyLoose.notSynchronized Bd
  have hrt := Bd.returns
  have X0 : Stand p l e ({ frames := 2, cells := 0, slots := 0, locals := 32 } : Room) s mt args below meth cd s₁ [] 0 0 := Stand.of_body Bd
  have e0 : s₁.heap = h0 := by rw [← hh, Bd.state]; rfl
  have N0 := Fr.nil n0
  show Win p e below (Ends s (Q_io2 Z a c b kb cs h0 n0) ({ frames := 2, cells := 0, slots := 0, locals := 32 } : Room).cells ({ frames := 2, cells := 0, slots := 0, locals := 32 } : Room).slots) s₁ (entryFrame mt args 3)
  rw [hA, ef_io2]
  refine Win.st ?_ (fun tq kq => XS.aloadN X0.here hx rfl (hb hby d_jdk_42_method_80_0) rfl rfl kq)
  show Win p e below _ s₁ (mkF mt 1 #[.val (.ref a), .val (.int c), .val (.int (0 : Int32))] [(.ref a)])
  obtain ⟨cq36, kq36, q36a, q36b, q36c⟩ := isOf hZ e0 E
  obtain ⟨v36, _, ⟨T36, L36, k36, n36⟩, -, X36, ⟨Lc36, hQ36, l36, y36, z36⟩, st36⟩ := X0.virtualBack hx (y := (⟨"java/lang/String", "isLatin1", "()Z"⟩ : MethodName)) (z := (⟨"java/lang/String", "isLatin1", "()Z"⟩ : MethodName)) hown (mvT hZ (hw _ (List.mem_of_getElem? (i := 32) rfl))) (mvT hZ (hw _ (List.mem_of_getElem? (i := 33) rfl))) (notFace_of_selects (args := #[]) (mvT hZ (hw _ (List.mem_of_getElem? (i := 35) rfl)))) (mvT hZ (hw _ (List.mem_of_getElem? (i := 35) rfl))) (mvT hZ (hw _ (List.mem_of_getElem? (i := 34) rfl))) (by decide) (backOf (W := 0) (rm_islatin1 l Z a0 hw [] a cs h0 n0 Z0 Fc S0 hcs O) hZ (hw _ (List.mem_of_getElem? (i := 36) rfl)) (hw _ (List.mem_of_getElem? (i := 15) rfl)) (by decide) (by decide)) q36a q36c (g := (mkF mt 1 #[.val (.ref a), .val (.int c), .val (.int (0 : Int32))] [(.ref a)])) rfl (by rw [hml]; rfl) (Steps.refl _) (argsL := []) (rest := []) (lenOf pd_5 rfl) rfl (by show 2 * 0 + _ ≤ _; exact Nat.le_of_eq rfl) (hb hby d_jdk_42_method_80_1) (fun _ _ => ⟨rfl, e0, (by decide : 0 + 0 ≤ _), (by decide : 0 + 0 ≤ _)⟩)
  dsimp only [Pt.U, Pt.locs, Pt.cells, Pt.slots] at X36 l36 y36 z36 st36 hQ36
  subst y36 z36
  replace X36 : Stand p l e _ s mt args below meth cd T36 L36 0 0 := X36
  obtain ⟨h36, e36⟩ : ∃ z, T36.heap = z := ⟨_, rfl⟩
  rw [e36] at hQ36
  obtain ⟨rfl, Nq36, eh36⟩ := hQ36
  have N36 : Fr n0 L36 := by rw [l36]; exact Fr.app N0 Nq36
  rw [eh36] at e36
  refine Win.tr ?_ st36
  show Win p e below _ T36 (mkF mt 4 #[.val (.ref a), .val (.int c), .val (.int (0 : Int32))] [(.int (1 : Int32))])
  refine Win.st ?_ (fun tq kq => XS.ifNo X36.here hx rfl (hb hby d_jdk_42_method_80_4) rfl ((if0 _ _).trans (feq (by decide : ¬ ((1 : Int32) = (0 : Int32)))).1) kq)
  show Win p e below _ T36 (mkF mt 7 #[.val (.ref a), .val (.int c), .val (.int (0 : Int32))] [])
  refine Win.st ?_ (fun tq kq => XS.aloadN X36.here hx rfl (hb hby d_jdk_42_method_80_7) rfl rfl kq)
  show Win p e below _ T36 (mkF mt 8 #[.val (.ref a), .val (.int c), .val (.int (0 : Int32))] [(.ref a)])
  obtain ⟨T37, X37, e37, st37⟩ := getF X36 hx hZ hown (host := "") (Or.inl (hw _ (List.mem_of_getElem? (i := 39) rfl))) Via.refl e36 Fv (g := (mkF mt 8 #[.val (.ref a), .val (.int c), .val (.int (0 : Int32))] [(.ref a)])) rfl rfl (hb hby d_jdk_42_method_80_8)
  refine Win.st ?_ st37
  show Win p e below _ T37 (mkF mt 11 #[.val (.ref a), .val (.int c), .val (.int (0 : Int32))] [(.ref b)])
  refine Win.st ?_ (fun tq kq => XS.iloadN X37.here hx rfl (hb hby d_jdk_42_method_80_11) rfl kq)
  show Win p e below _ T37 (mkF mt 12 #[.val (.ref a), .val (.int c), .val (.int (0 : Int32))] [(.int c), (.ref b)])
  refine Win.st ?_ (fun tq kq => XS.iloadN X37.here hx rfl (hb hby d_jdk_42_method_80_12) rfl kq)
  show Win p e below _ T37 (mkF mt 13 #[.val (.ref a), .val (.int c), .val (.int (0 : Int32))] [(.int (0 : Int32)), (.int c), (.ref b)])
  refine Win.st ?_ (fun tq kq => XS.aloadN X37.here hx rfl (hb hby d_jdk_42_method_80_13) rfl rfl kq)
  show Win p e below _ T37 (mkF mt 14 #[.val (.ref a), .val (.int c), .val (.int (0 : Int32))] [(.ref a), (.int (0 : Int32)), (.int c), (.ref b)])
  obtain ⟨cq38, kq38, q38a, q38b, q38c⟩ := isOf hZ e37 E
  obtain ⟨v38, _, ⟨T38, L38, k38, n38⟩, -, X38, ⟨Lc38, hQ38, l38, y38, z38⟩, st38⟩ := X37.virtualBack hx (y := (⟨"java/lang/String", "length", "()I"⟩ : MethodName)) (z := (⟨"java/lang/String", "length", "()I"⟩ : MethodName)) hown (mvT hZ (hw _ (List.mem_of_getElem? (i := 40) rfl))) (mvT hZ (hw _ (List.mem_of_getElem? (i := 41) rfl))) (notFace_of_selects (args := #[]) (mvT hZ (hw _ (List.mem_of_getElem? (i := 43) rfl)))) (mvT hZ (hw _ (List.mem_of_getElem? (i := 43) rfl))) (mvT hZ (hw _ (List.mem_of_getElem? (i := 42) rfl))) (by decide) (backOf (W := 3) (rm_slen l Z a0 hw [] a b kb (15 : Int32) [(.int (33 : Int32)), (.int (35 : Int32)), (.int (36 : Int32)), (.int (37 : Int32)), (.int (38 : Int32)), (.int (39 : Int32)), (.int (42 : Int32)), (.int (43 : Int32)), (.int (45 : Int32)), (.int (46 : Int32)), (.int (94 : Int32)), (.int (95 : Int32)), (.int (96 : Int32)), (.int (124 : Int32)), (.int (126 : Int32))] cs h0 n0 Z0 E Fv Fc VB S0 hcs O) hZ (hw _ (List.mem_of_getElem? (i := 44) rfl)) (hw _ (List.mem_of_getElem? (i := 15) rfl)) (by decide) (by decide)) q38a q38c (g := (mkF mt 14 #[.val (.ref a), .val (.int c), .val (.int (0 : Int32))] [(.ref a), (.int (0 : Int32)), (.int c), (.ref b)])) rfl (by rw [hml]; rfl) (Steps.refl _) (argsL := []) (rest := [(.int (0 : Int32)), (.int c), (.ref b)]) (lenOf pd_6 rfl) rfl (by show 2 * 0 + _ ≤ _; exact Nat.le_of_eq rfl) (hb hby d_jdk_42_method_80_14) (fun _ _ => ⟨rfl, e37, (by decide : 0 + 0 ≤ _), (by decide : 0 + 0 ≤ _)⟩)
  dsimp only [Pt.U, Pt.locs, Pt.cells, Pt.slots] at X38 l38 y38 z38 st38 hQ38
  subst y38 z38
  replace X38 : Stand p l e _ s mt args below meth cd T38 L38 0 0 := X38
  obtain ⟨h38, e38⟩ : ∃ z, T38.heap = z := ⟨_, rfl⟩
  rw [e38] at hQ38
  obtain ⟨rfl, Nq38, eh38⟩ := hQ38
  have N38 : Fr n0 L38 := by rw [l38]; exact Fr.app N36 Nq38
  rw [eh38] at e38
  refine Win.tr ?_ st38
  show Win p e below _ T38 (mkF mt 17 #[.val (.ref a), .val (.int c), .val (.int (0 : Int32))] [(.int (15 : Int32)), (.int (0 : Int32)), (.int c), (.ref b)])
  obtain ⟨v39, _, ⟨T39, L39, k39, n39⟩, -, X39, ⟨Lc39, hQ39, l39, y39, z39⟩, st39⟩ := Jvm.LawKit.callS X38 hx (y := (⟨"java/lang/StringLatin1", "indexOf", "([BIII)I"⟩ : MethodName)) hown (mvT hZ (hw _ (List.mem_of_getElem? (i := 50) rfl))) (mvT hZ (hw _ (List.mem_of_getElem? (i := 51) rfl))) (mvT hZ (hw _ (List.mem_of_getElem? (i := 52) rfl))) (mvT hZ (hw _ (List.mem_of_getElem? (i := 53) rfl))) (by decide) (backOf (W := 0) (rm_lio l Z a0 hw [] b c kb h0 n0 Z0 VB hc0) hZ (hw _ (List.mem_of_getElem? (i := 53) rfl)) (hw _ (List.mem_of_getElem? (i := 52) rfl)) (by decide) (by decide)) (g := (mkF mt 17 #[.val (.ref a), .val (.int c), .val (.int (0 : Int32))] [(.int (15 : Int32)), (.int (0 : Int32)), (.int c), (.ref b)])) rfl (by rw [hml]; rfl) (argsL := [(.ref b), (.int c), (.int (0 : Int32)), (.int (15 : Int32))]) (rest := []) (lenOf pd_4 rfl) rfl (by show 2 * 0 + _ ≤ _; exact Nat.le_of_eq rfl) (hb hby d_jdk_42_method_80_17) (fun _ _ => ⟨rfl, e38, (by decide : 0 + 0 ≤ _), (by decide : 0 + 0 ≤ _)⟩)
  dsimp only [Pt.U, Pt.locs, Pt.cells, Pt.slots] at X39 l39 y39 z39 st39 hQ39
  subst y39 z39
  replace X39 : Stand p l e _ s mt args below meth cd T39 L39 0 0 := X39
  obtain ⟨h39, e39⟩ : ∃ z, T39.heap = z := ⟨_, rfl⟩
  rw [e39] at hQ39
  obtain ⟨rr, rfl, Nq39, eh39, hr⟩ := hQ39
  have N39 : Fr n0 L39 := by rw [l39]; exact Fr.app N38 Nq39
  rw [eh39] at e39
  refine Win.st ?_ st39
  show Win p e below _ T39 (mkF mt 20 #[.val (.ref a), .val (.int c), .val (.int (0 : Int32))] [(.int rr)])
  refine Win.st ?_ (fun tq kq => XS.goto X39.here hx rfl (pc0 := 20) (pc' := 36) rfl (hb hby d_jdk_42_method_80_20) (by decide) (by decide) kq)
  show Win p e below _ T39 (mkF mt 36 #[.val (.ref a), .val (.int c), .val (.int (0 : Int32))] [(.int rr)])
  exact Win.ret X39 hx hlk e39 hrt rfl (Or.inl ⟨rfl, Or.inl rfl, _, rfl⟩) (hb hby d_jdk_42_method_80_36) (by decide) (by decide) ⟨_, rfl, N39, rfl, hr⟩
theorem d_jdk_42_method_79_0 : decode jdk_42_method_79_code 0 = .ok (.aload_n 0, 1) := by decide +kernel
theorem d_jdk_42_method_79_1 : decode jdk_42_method_79_code 1 = .ok (.iload_n 1, 1) := by decide +kernel
theorem d_jdk_42_method_79_2 : decode jdk_42_method_79_code 2 = .ok (.iconst 0, 1) := by decide +kernel
theorem d_jdk_42_method_79_3 : decode jdk_42_method_79_code 3 = .ok (.invokevirtual 633, 3) := by decide +kernel
theorem d_jdk_42_method_79_6 : decode jdk_42_method_79_code 6 = .ok (.ireturn, 1) := by decide +kernel
theorem ef_io1 (mt : MethodId) (a : Addr) (c : Int32) : entryFrame mt #[(.ref a), (.int c)] 2 = mkF mt 0 #[.val (.ref a), .val (.int c)] [] := by first | (simp [entryFrame, mkF, argsToLocals, Value.category]; done) | rfl
def Q_io1 (Z : State) (a : Addr) (c : Int32) (b : Addr) (kb : ClassId) (cs : Int32) (h0 : Heap) (n0 : Nat) (v : Option Value) (h : Heap) (L : List Loc) : Prop := ∃ r : Int32, v = some (.int r) ∧ Fr n0 L ∧ h = h0 ∧ (r < 0 ↔ (¬ (c = (33 : Int32)) ∧ ¬ (c = (35 : Int32)) ∧ ¬ (c = (36 : Int32)) ∧ ¬ (c = (37 : Int32)) ∧ ¬ (c = (38 : Int32)) ∧ ¬ (c = (39 : Int32)) ∧ ¬ (c = (42 : Int32)) ∧ ¬ (c = (43 : Int32)) ∧ ¬ (c = (45 : Int32)) ∧ ¬ (c = (46 : Int32)) ∧ ¬ (c = (94 : Int32)) ∧ ¬ (c = (95 : Int32)) ∧ ¬ (c = (96 : Int32)) ∧ ¬ (c = (124 : Int32)) ∧ ¬ (c = (126 : Int32))))
set_option maxRecDepth 65536 in
set_option maxHeartbeats 40000000 in
theorem rm_io1 (l : Launch) (Z : State) (a0 : Array Value) (hw : ∀ d ∈ tables_1, d.before a0 Z = true) (ws : List Jvm.Cond) (a : Addr) (c : Int32) (b : Addr) (kb : ClassId) (cs : Int32) (h0 : Heap) (n0 : Nat) (Z0 : n0 ≤ h0.size) (E : Exa Z h0 a "java/lang/String") (Fv : Fld Z h0 a "java/lang/String" "value" "[B" (.ref b)) (Fc : Fld Z h0 a "java/lang/String" "coder" "B" (.int (0 : Int32))) (VB : Arv Z h0 b kb .byte (15 : Int32) [(.int (33 : Int32)), (.int (35 : Int32)), (.int (36 : Int32)), (.int (37 : Int32)), (.int (38 : Int32)), (.int (39 : Int32)), (.int (42 : Int32)), (.int (43 : Int32)), (.int (45 : Int32)), (.int (46 : Int32)), (.int (94 : Int32)), (.int (95 : Int32)), (.int (96 : Int32)), (.int (124 : Int32)), (.int (126 : Int32))] (.int (0 : Int32))) (S0 : Sta Z Z.heap "java/lang/String" "COMPACT_STRINGS" "Z" (.int cs)) (hcs : ¬ cs = (0 : Int32)) (O : Old Z n0 h0) (hc0 : 0 ≤ c.toInt) :
    MetFree l (⟨"java/lang/String", "indexOf", "(I)I"⟩ : MethodName) (head1 (Jvm.Cond.code (⟨"java/lang/String", "indexOf", "(I)I"⟩ : MethodName) jdk_42_method_79_code 2 (some .int) :: ws) ({ frames := 3, cells := 0, slots := 0, locals := 46 } : Room)) (fun aa UU => aa = #[(.ref a), (.int c)] ∧ Z.Warmed39 UU.vm ∧ UU.heap = h0) (fun _ _ _ _ _ => True) (fun _ UU oo UU' => ∃ vv LL, oo = .returned vv ∧ Q_io1 Z a c b kb cs h0 n0 vv UU'.heap LL ∧ FrameEnd UU oo UU' LL ({ frames := 3, cells := 0, slots := 0, locals := 46 } : Room).cells ({ frames := 3, cells := 0, slots := 0, locals := 46 } : Room).slots) := by
  refine MetFree.of_bodySF (plainFor_of_name pn_0) hisR ?_
  intro p e s mt args below meth cd s₁ Bd hml0 hP hK
  obtain ⟨hA, hZ, hh⟩ := hP
  have hx := Bd.exec
  have hby := Bd.bytes
  have hml : cd.maxLocals = 2 := hml0
  have hown : s.vm.findClass "java/lang/String" = some mt.cls := findClass_of_methodNamed Bd.named
  have hnm := (name_of_methodNamed Bd.named Bd.method).1
  have hlk : meth.locks = false := BodyLoose.notSynchronized Bd
  have hrt := Bd.returns
  have X0 : Stand p l e ({ frames := 3, cells := 0, slots := 0, locals := 46 } : Room) s mt args below meth cd s₁ [] 0 0 := Stand.of_body Bd
  have e0 : s₁.heap = h0 := by rw [← hh, Bd.state]; rfl
  have N0 := Fr.nil n0
  show Win p e below (Ends s (Q_io1 Z a c b kb cs h0 n0) ({ frames := 3, cells := 0, slots := 0, locals := 46 } : Room).cells ({ frames := 3, cells := 0, slots := 0, locals := 46 } : Room).slots) s₁ (entryFrame mt args 2)
  rw [hA, ef_io1]
  refine Win.st ?_ (fun tq kq => XS.aloadN X0.here hx rfl (hb hby d_jdk_42_method_79_0) rfl rfl kq)
  show Win p e below _ s₁ (mkF mt 1 #[.val (.ref a), .val (.int c)] [(.ref a)])
  refine Win.st ?_ (fun tq kq => XS.iloadN X0.here hx rfl (hb hby d_jdk_42_method_79_1) rfl kq)
  show Win p e below _ s₁ (mkF mt 2 #[.val (.ref a), .val (.int c)] [(.int c), (.ref a)])
  refine Win.st ?_ (fun tq kq => XS.iconst X0.here hx rfl (hb hby d_jdk_42_method_79_2) kq)
  show Win p e below _ s₁ (mkF mt 3 #[.val (.ref a), .val (.int c)] [(.int (0 : Int32)), (.int c), (.ref a)])
  obtain ⟨cq40, kq40, q40a, q40b, q40c⟩ := isOf hZ e0 E
  obtain ⟨v40, _, ⟨T40, L40, k40, n40⟩, -, X40, ⟨Lc40, hQ40, l40, y40, z40⟩, st40⟩ := X0.virtualBack hx (y := (⟨"java/lang/String", "indexOf", "(II)I"⟩ : MethodName)) (z := (⟨"java/lang/String", "indexOf", "(II)I"⟩ : MethodName)) hown (mvT hZ (hw _ (List.mem_of_getElem? (i := 27) rfl))) (mvT hZ (hw _ (List.mem_of_getElem? (i := 28) rfl))) (notFace_of_selects (args := #[]) (mvT hZ (hw _ (List.mem_of_getElem? (i := 30) rfl)))) (mvT hZ (hw _ (List.mem_of_getElem? (i := 30) rfl))) (mvT hZ (hw _ (List.mem_of_getElem? (i := 29) rfl))) (by decide) (backOf (W := 0) (rm_io2 l Z a0 hw [] a c b kb cs h0 n0 Z0 E Fv Fc VB S0 hcs O hc0) hZ (hw _ (List.mem_of_getElem? (i := 31) rfl)) (hw _ (List.mem_of_getElem? (i := 15) rfl)) (by decide) (by decide)) q40a q40c (g := (mkF mt 3 #[.val (.ref a), .val (.int c)] [(.int (0 : Int32)), (.int c), (.ref a)])) rfl (by rw [hml]; rfl) (Steps.refl _) (argsL := [(.int c), (.int (0 : Int32))]) (rest := []) (lenOf pd_3 rfl) rfl (by show 2 * 0 + _ ≤ _; exact Nat.le_of_eq rfl) (hb hby d_jdk_42_method_79_3) (fun _ _ => ⟨rfl, e0, (by decide : 0 + 0 ≤ _), (by decide : 0 + 0 ≤ _)⟩)
  dsimp only [Pt.U, Pt.locs, Pt.cells, Pt.slots] at X40 l40 y40 z40 st40 hQ40
  subst y40 z40
  replace X40 : Stand p l e _ s mt args below meth cd T40 L40 0 0 := X40
  obtain ⟨h40, e40⟩ : ∃ z, T40.heap = z := ⟨_, rfl⟩
  rw [e40] at hQ40
  obtain ⟨rr, rfl, Nq40, eh40, hr⟩ := hQ40
  have N40 : Fr n0 L40 := by rw [l40]; exact Fr.app N0 Nq40
  rw [eh40] at e40
  refine Win.tr ?_ st40
  show Win p e below _ T40 (mkF mt 6 #[.val (.ref a), .val (.int c)] [(.int rr)])
  exact Win.ret X40 hx hlk e40 hrt rfl (Or.inl ⟨rfl, Or.inl rfl, _, rfl⟩) (hb hby d_jdk_42_method_79_6) (by decide) (by decide) ⟨_, rfl, N40, rfl, hr⟩
section OwnLdcW
open Jvm.Free.SB Jvm.Free.SBG
variable {p : Program} {l : Launch} {e : Env} {R : Room} {s : State} {m : MethodId} {args : Array Value} {below : List Frame} {meth : Method} {c : Code} {T : State} {locs : List Loc} {cells slots : Nat} {g : JFrame} {Z : State} {h : Heap}
variable {own text : String} {index : Nat} {EL : List (String × Nat)} {vm0 : Vm} {a0 : Array Value}
/-- String's words, from Z to a state with later tables -/
theorem own_wAtoms {U : State} (hZ : Z.Warmed39 U.vm) (wS : ∀ a ∈ Bundle.stringAtoms, a.before a0 Z = true) : ∀ a ∈ Bundle.stringAtoms, a.before args U = true := fun d hd => by
  have q := wS d hd
  simp only [Bundle.stringAtoms, List.mem_cons, List.not_mem_nil, or_false] at hd
  rcases hd with rfl | rfl | rfl | rfl | rfl | rfl | rfl
  · exact mv (s := U) hZ q
  · exact mv (s := U) hZ q
  · exact mvA (s := U) hZ q
  · exact mv (s := U) hZ q
  · exact mv (s := U) hZ q
  · exact mv (s := U) hZ q
  · exact mv (s := U) hZ q
/-- ldc_w of a String constant: where the tables and the heap go -/
theorem own_wCold (X : Stand p l e R s m args below meth c T locs cells slots) (hx : p.tables.exec = Jvm.exec) (hown : s.vm.findClass own = some m.cls) (hl : (Cond.stringLink own index text).before args s = true) (hS : ∀ a ∈ Bundle.stringAtoms, a.before args s = true) (ht : ∀ c ∈ text.toList, c.toNat < 256)
    (hg : g.method = m) (hd : decode c.code g.pc = .ok (.ldc_w index, 3)) {n : Nat} (hn : 4 * text.toList.length ≤ n) (hbig : n ≤ 536870912) (hc : cells + 2 ≤ R.cells) (hsl : slots + (n + 4) ≤ R.slots) :
    ∃ (a : Addr) (U : State), Stand p l e R (s.setVm U.vm) m args below meth c U locs (cells + 2) (slots + (n + 4)) ∧ s.Since U.vm U.heap.size ∧ Lit U own index a ∧ Ext T.heap U.heap ∧ T.Warmed39 U.vm ∧
      (U.vm.interned = T.vm.interned ∨ ∃ us : Array UInt16, U.vm.interned = T.vm.interned.push (us, a) ∧ T.vm.interned.find? (fun p => p.1 == us) = none ∧ ∃ q : SQ, q.sa = a ∧ SlB U q us ∧ T.heap.size ≤ q.sa ∧ T.heap.size ≤ q.sd) ∧
      ∀ target, Steps p.tables e below (U.setTop { g with pc := g.pc + 3, stack := .ref a :: g.stack }) target → Steps p.tables e below (T.setTop g) target := by
  have hsT : s.Warmed39 T.vm := X.warmed.wide
  have hownT : T.vm.findClass own = some m.cls := by rw [hsT.alike.findClass]; exact hown
  have hlT : (Cond.stringLink own index text).before args T = true := mvS (s := T) hsT hl
  have hST := own_wAtoms (args := args) (U := T) hsT hS
  obtain ⟨k, cf, i, units, hk, hcf, hp, hu, hnm, htx, hres⟩ := Cond.stringLink_spec hownT hlT
  have hby : (stringBytes units).size ≤ n := Nat.le_trans (text_bytes_le htx) hn
  have b2 : k.cf.bind (namesOf? ·.constantPool index) = some (.string text) := by rw [hcf]; exact hnm
  have b3 : k.cf.bind (·.constantPool[index]?) = some (.string i) := by rw [hcf]; exact hp
  have b4 : k.cf.bind (·.constantPool.utf8? i) = some units := by rw [hcf]; simp [ConstantPool.utf8?, hu]
  have fin : ∀ (U : State) (k' : Class) (a : Addr), T.Warmed39 U.vm → U.vm.classes[m.cls]? = some k' → k'.resolved[index]? = some (some (.string a)) → Lit U own index a := fun U k' a hW h1 h2 => by
    have hf : U.vm.findClass own = some m.cls := by rw [hW.alike.findClass]; exact hownT
    simp [Lit, State.resolvedAt?, hf, h1, h2]
  subst hg
  rcases hres with ho | ⟨a, hr⟩
  · cases hf : T.vm.interned.find? (fun p => p.1 == units) with
    | some pr =>
      obtain ⟨u', a⟩ := pr
      have hu' : u' = units := by simpa using Array.find?_some hf
      subst hu'
      have hW : T.Warmed39 (T.vm.noted g.method.cls index (.string a)) := (State.Warmed39.refl T).notedString hk (Or.inl ho) b2 b3 b4 hf
      have hW0 := State.Warmed39.trans (t := T) hsT hW
      refine ⟨a, T.setVm (T.vm.noted g.method.cls index (.string a)), (X.mono (by omega) (by omega)).retabled hW0, ⟨hW0, State.Booked.step (T₂ := T.setVm (T.vm.noted g.method.cls index (.string a))) (X.warmed.no_new_pair _) X.same.2.1 ⟨Nat.le_refl _, Or.inl rfl⟩⟩,
        fin _ _ _ hW (Vm.classes_note_self index (.string a) hk) (Class.resolved_note_self (.string a) ho), ⟨Nat.le_refl _, fun _ _ q => q⟩, hW, Or.inl rfl, fun target rest => ?_⟩
      jvm_step X.here [hx, hd, ldc_w.wp_string_found (e := e) (s := T) (f := g) X.here.top hk hcf hp hu ho hf]
      exact rest
    | none =>
      obtain ⟨Zs, LZ, hn4, hfv, hfc⟩ := StringT.of_atoms (args := args) hST
      obtain ⟨vm1, hvm1⟩ : ∃ vm1 : Vm, vm1 = { T.vm with interned := T.vm.interned.push (units, T.heap.size + 1) } := ⟨_, rfl⟩
      obtain ⟨U, hU⟩ : ∃ U : State, U = (withString T Zs.cB Zs.cS Zs.kS Zs.fv Zs.fc units).setVm (vm1.noted g.method.cls index (.string (T.heap.size + 1))) := ⟨_, rfl⟩
      have hp1 : vm1.interned.find? (fun p => p.1 == units) = some (units, T.heap.size + 1) := by subst hvm1; show (T.vm.interned.push _).find? _ = _; rw [Array.find?_push, hf]; simp
      have hvU : U.vm = vm1.noted g.method.cls index (.string (T.heap.size + 1)) := by subst hU; rfl
      have hW : T.Warmed39 U.vm := by rw [hvU]; subst hvm1; exact ((State.Warmed39.refl T).interns units (T.heap.size + 1)).notedString hk (Or.inl ho) b2 b3 b4 hp1
      have hW0 := State.Warmed39.trans (t := T) hsT hW
      have hh : U.heap = (T.heap.push (bytesOf Zs.cB units)).push (stringAt Zs.cS Zs.kS Zs.fv Zs.fc units T.heap.size) := by subst hU; show (withString T Zs.cB Zs.cS Zs.kS Zs.fv Zs.fc units).heap = _; rw [withString_eq]; rfl
      have hEx : Ext T.heap U.heap := ⟨by rw [hh]; simp; omega, fun x cl q => by
        have hlt := (Array.getElem?_eq_some_iff.mp q).1
        rw [hh, Array.getElem?_push, if_neg (by rw [Array.size_push]; omega), Array.getElem?_push, if_neg (by omega)]; exact q⟩
      have hc1 : U.heap[T.heap.size]? = some (bytesOf Zs.cB units) := by rw [hh, Array.getElem?_push, if_neg (by rw [Array.size_push]; omega), Array.getElem?_push, if_pos rfl]
      have hc2 : U.heap[T.heap.size + 1]? = some (stringAt Zs.cS Zs.kS Zs.fv Zs.fc units T.heap.size) := by rw [hh, Array.getElem?_push, if_pos (by rw [Array.size_push])]
      have hone : T.Interned1 U := ⟨hEx.1, Or.inr ⟨units, T.heap.size + 1, by rw [hvU]; subst hvm1; rfl, by omega, by rw [hh]; simp⟩⟩
      have X2 := (X.pushed (bytesOf Zs.cB units)).pushed (stringAt Zs.cS Zs.kS Zs.fv Zs.fc units T.heap.size)
      rw [← withString_eq] at X2
      have z1 : (bytesOf Zs.cB units).slots.size = (stringBytes units).size := by rw [(Cell.writeAll_facts _ _).2.2]; simp [bytes0]
      have z2 : (stringAt Zs.cS Zs.kS Zs.fv Zs.fc units T.heap.size).slots.size = 4 := by simp [string0, Cell.setSlot, hn4]
      have X3 : Stand p l e R (s.setVm U.vm) g.method args below meth c U locs (cells + 2) (slots + (n + 4)) := by
        have := (X2.mono (cells' := cells + 2) (slots' := slots + (n + 4)) (by omega) (by rw [z1, z2]; omega)).retabled hW0
        rw [hvU] at this ⊢; rw [hU]; exact this
      obtain ⟨q, cS, r0, r1, r2, r3, r4, r5⟩ := made_sl (W := U) hST LZ hn4 rfl hW.alike hc1 hc2 (Jvm.ClassFile.lat_of_text htx ht) (by omega) 0
      refine ⟨T.heap.size + 1, U, X3, ⟨hW0, State.Booked.step (X.warmed.no_new_pair _) X.same.2.1 hone⟩, fin _ _ _ hW (by rw [hvU]; exact Vm.classes_note_self (vm := vm1) index (.string (T.heap.size + 1)) (by subst hvm1; exact hk)) (Class.resolved_note_self (.string (T.heap.size + 1)) ho), hEx, hW,
        Or.inr ⟨units, by rw [hvU]; subst hvm1; rfl, hf, q, r0, ⟨cS, r1, r2, r3, r4⟩, r5.elim (fun z => absurd z.1 (Nat.not_lt_zero _)) id⟩, fun target rest => ?_⟩
      refine Steps.instr (c := _) (by simpa using X.here) ?_
      simp [jvm, wpRun, exec, X.here.top, hx, hd]
      refine ldc_w.wp_string_new (e := e) (s := T) (f := g) X.here.top hk hcf hp hu ho hf LZ.found LZ.cls LZ.initialized LZ.ordinary LZ.foundB LZ.clsB LZ.kindB LZ.value LZ.coder ?_ ?_ (X.cellsAbove hc) ?_ (stringBytes_fit LZ.clsB LZ.kindB units) LZ.valueSlot LZ.coderSlot (hfv _) (hfc _) (fun d' acts' => ?_)
      · rw [Launch.admits_arrayLengthLimit X.admits]; omega
      · rw [Launch.admits_maxHeapBytes X.admits]; simp only [componentBytes]; omega
      · have := X.slotsAbove hsl
        rw [hn4]; omega
      · intro acts''
        subst hvm1
        have t1 : (withString T Zs.cB Zs.cS Zs.kS Zs.fv Zs.fc units).topJava?.isSome := by simpa [withString] using X.here.top
        have t2 : U.topJava?.isSome := by rw [hU]; simpa using t1
        rw [← hU]
        simp [jvm, afterInstr, t1, t2]
        rw [State.modifyTopJava_setTop]
        exact rest
  · refine ⟨a, T, (X.mono (by omega) (by omega)).retabled hsT, X.warmed.since _, fin _ _ _ (State.Warmed39.refl T) hk hr, ⟨Nat.le_refl _, fun _ _ q => q⟩, State.Warmed39.refl T, Or.inl rfl, fun target rest => ?_⟩
    jvm_step X.here [hx, hd, ldc_w.wp_string (e := e) (s := T) (f := g) X.here.top hk hcf hp hr]
    exact rest
/-- what a booked Latin-1 String shows of itself -/
theorem own_wShows {vm : Vm} {a : Addr} {units : Array UInt16} (hal : Z.vm.Alike vm) (F : SlOf (Wst Z vm h) a units) (hlat : units.all (· < 256) = true) {vs : List Value} {z : Int32} (hvs : vs = units.toList.map fun u => Value.int (Jvm.Lit.byteI u)) (hz : ¬ z < 0) (hl : z.toNatClampNeg = vs.length) :
    ∃ (b : Addr) (k : ClassId), Exa Z h a "java/lang/String" ∧ Fld Z h a "java/lang/String" "coder" "B" (.int 0) ∧ Fld Z h a "java/lang/String" "value" "[B" (.ref b) ∧ Arv Z h b k .byte z vs (.int 0) := by
  obtain ⟨q, cS, hqa, ⟨hq, hcS, hcl⟩, ⟨kS, hkS, -, hsz⟩, hB, hby⟩ := F
  have hcS : vm.findClass "java/lang/String" = some cS := hcS
  have hB : vm.findClass "[B" = some q.SA.cls := hB
  have hkS : vm.classes[cS]? = some kS := hkS
  rw [hal.findClass] at hcS hB
  subst hqa hcl
  obtain ⟨h1, h2, h3, ⟨cv, kv, iv, fv, av⟩, ⟨cc, kc, ic, fc, ac⟩, nv, nc, v1, v2, h10, ⟨h11, k9, e9, comp, i9⟩, h12, -, -, -, hfit⟩ := hq
  obtain ⟨kv', zv⟩ := ff_back (U := Wst Z vm h) hal fv
  obtain ⟨kc', zc⟩ := ff_back (U := Wst Z vm h) hal fc
  have av : Z.vm.assignable q.sC.cls cv = true := by rw [← hal.assignable]; exact av
  have ac : Z.vm.assignable q.sC.cls cc = true := by rw [← hal.assignable]; exact ac
  have back : ∀ {n : String} {c : ClassId} {k : Class}, Z.vm.findClass n = some c → vm.classes[c]? = some k → ∃ k0, Z.vm.classes[c]? = some k0 ∧ k.instanceTypes = k0.instanceTypes ∧ k.kind = k0.kind := fun hf hk => by
    obtain ⟨k0, g1, -⟩ := Vm.findClass_spec hf
    obtain ⟨k1, g2, g3⟩ := hal.2.2 _ _ g1
    cases hk.symm.trans g2
    exact ⟨k0, g1, by rw [g3], by rw [g3]⟩
  obtain ⟨kz, y1, y2, -⟩ := back hcS hkS
  obtain ⟨kb, x1, -, x3⟩ := back hB (show vm.classes[q.SA.cls]? = some k9 from e9)
  have hsl : q.SA.slots = units.map fun u => Value.int (Jvm.Lit.byteI u) := by rw [hby, SBG.stringBytes_lat hlat]; rfl
  have hn : q.SA.slots.size = units.size := by rw [hsl, Array.size_map]
  have hvl : vs.length = units.size := by rw [hvs]; simp
  have hH : Has q.SA vs (.int 0) := fun j hj => by
    have hj' : j < units.size := by omega
    rw [hsl, hvs]; simp [hj']
  refine ⟨q.sd, q.SA.cls, ⟨_, kz, h1, hcS, y1, h3, fun _ => by rw [hsz, y2]⟩, ⟨_, cc, kc', ic, q.fSC, h1, zc, nc, h2, h3, ac, v2⟩, ⟨_, cv, kv', iv, q.fSV, h1, zv, nv, h2, h3, av, v1⟩, ⟨_, ⟨h10, ⟨h11, kb, x1, comp, by rw [← x3]; exact i9⟩, h12⟩, rfl, by rw [hn, hl, hvl], hz, hH, fun j hj => ?_⟩⟩
  have r := hfit j hj
  rw [SBG.getD_of (hH j hj)] at r
  exact r
/-- ldc_w of a String constant, read -/
theorem own_ldcW (X : Stand p l e R (s.setVm vm0) m args below meth c T locs cells slots) (hx : p.tables.exec = Jvm.exec) (hZ : Z.Warmed39 vm0) (hown : vm0.findClass own = some m.cls) (w : (Cond.stringLink own index text).before a0 Z = true) (wS : ∀ a ∈ Bundle.stringAtoms, a.before a0 Z = true)
    (eT : T.heap = h) {k0 : Nat} (hS : s.Since vm0 k0) (hk : k0 ≤ h.size) (hEL : EW Z a0 EL) (hmem : (own, index) ∈ EL) (H : CHv Z EL vm0 h)
    {vs : List Value} {z : Int32} (ht : (∀ c ∈ text.toList, c.toNat < 256) ∧ text.toList.map (fun c => Value.int (Jvm.Lit.byteI c.toNat.toUInt16)) = vs) (hz : ¬ z < 0) (hl : z.toNatClampNeg = vs.length)
    (hg : g.method = m) (hd : decode c.code g.pc = .ok (.ldc_w index, 3)) {n : Nat} (hn : 4 * text.toList.length ≤ n) (hbig : n ≤ 536870912) (hc : cells + 2 ≤ R.cells) (hl' : slots + (n + 4) ≤ R.slots) :
    ∃ (a : Addr) (T' : State) (h' : Heap) (k1 : Nat) (b : Addr) (k : ClassId), Stand p l e R (s.setVm T'.vm) m args below meth c T' locs (cells + 2) (slots + (n + 4)) ∧ T'.heap = h' ∧ Ext h h' ∧ s.Since T'.vm k1 ∧ k1 ≤ h'.size ∧ Z.Warmed39 (s.setVm T'.vm).vm ∧ (s.setVm T'.vm).vm.findClass own = some m.cls ∧
      Exa Z h' a "java/lang/String" ∧ Fld Z h' a "java/lang/String" "coder" "B" (.int 0) ∧ Fld Z h' a "java/lang/String" "value" "[B" (.ref b) ∧ Arv Z h' b k .byte z vs (.int 0) ∧ CHr Z EL vm0 h T'.vm h' ∧
      ∀ target, Steps p.tables e below (T'.setTop { g with pc := g.pc + 3, stack := .ref a :: g.stack }) target → Steps p.tables e below (T.setTop g) target := by
  subst eT
  obtain ⟨a, U, X', hS', hL, E, hTW, hint, st⟩ := own_wCold X hx (own := own) hown (mvS hZ w) (own_wAtoms (U := s.setVm vm0) hZ wS) ht.1 hg hd hn hbig hc hl'
  have hZT : Z.Warmed39 T.vm := wtrans (s := s.setVm vm0) hZ X.warmed
  have hZU : Z.Warmed39 U.vm := State.Warmed39.trans (t := s.setVm vm0) hZ hS'.1
  have A := CHv.at X hZ hEL H
  have B := CHv.later (vm := T.vm) (vm1 := U.vm) hZT (show (Wst Z T.vm T.heap).Warmed39 U.vm from hTW) hEL E (hint.imp id fun ⟨us, e1, e2, q, q1, q2, q3⟩ => ⟨us, a, e1, e2, fun _ => ⟨q, q1, q2.carry (V := Wst Z U.vm U.heap) (Vm.Alike.refl _) q2.ha q2.hd, q3⟩⟩) A.1
  have hf : U.vm.findClass own = some m.cls := by rw [hS'.1.alike.findClass]; exact hown
  obtain ⟨k, cf, i, units, hkc, hcf, hp, hu, -, htx, -⟩ := Cond.stringLink_spec (args := a0) (s := Wst Z U.vm U.heap) hf (mvS (s := { Z with heap := U.heap }) hZU w)
  have hkc : U.vm.classes[m.cls]? = some k := hkc
  have hr : k.resolved[index]? = some (some (.string a)) := by
    have q : U.resolvedAt? own index = some (.string a) := hL
    simpa [State.resolvedAt?, hf, hkc, Option.join_eq_some_iff] using q
  obtain ⟨b, kb, F1, F2, F3, F4⟩ := own_wShows hZU.alike (B.1 _ hmem units a ⟨m.cls, k, cf, i, hf, hkc, hcf, hp, hu, Or.inl hr⟩) (Jvm.ClassFile.lat_of_text htx ht.1) (vs := vs) (z := z) (by rw [← ht.2, Jvm.ClassFile.units_of_text htx ht.1, List.map_map]; rfl) hz hl
  exact ⟨a, U, _, _, b, kb, X', rfl, E, hS.trans hS' (Nat.le_trans hk E.1), Nat.le_refl _, hZU, hf, F1, F2, F3, F4, A.trans ⟨B.1, E.1, B.2⟩, st⟩
end OwnLdcW

theorem own_EW {Z : State} {a0 : Array Value} (hw : ∀ d ∈ tables_1, d.before a0 Z = true) : EW Z a0 own_EL := EW.cons (hw _ (List.mem_of_getElem? (i := 14) rfl)) (by decide +kernel) EW.nil
theorem d_prog_10_method_30_0 : decode prog_10_method_30_code 0 = .ok (.iload_n 0, 1) := by decide +kernel
theorem d_prog_10_method_30_1 : decode prog_10_method_30_code 1 = .ok (.invokestatic 197, 3) := by decide +kernel
theorem d_prog_10_method_30_4 : decode prog_10_method_30_code 4 = .ok (.ifCond .ne 20, 3) := by decide +kernel
theorem d_prog_10_method_30_7 : decode prog_10_method_30_code 7 = .ok (.iload_n 0, 1) := by decide +kernel
theorem d_prog_10_method_30_8 : decode prog_10_method_30_code 8 = .ok (.invokestatic 170, 3) := by decide +kernel
theorem d_prog_10_method_30_11 : decode prog_10_method_30_code 11 = .ok (.ifCond .ne 13, 3) := by decide +kernel
theorem own_strw {Z : State} {a0 : Array Value} (hw : ∀ d ∈ tables_1, d.before a0 Z = true) : ∀ a ∈ Bundle.stringAtoms, a.before a0 Z = true := fun d hd => by
  simp only [Bundle.stringAtoms, List.mem_cons, List.not_mem_nil, or_false] at hd
  rcases hd with rfl | rfl | rfl | rfl | rfl | rfl | rfl
  · first | exact (hw _ (List.mem_of_getElem? (i := 15) rfl)) | exact (hw _ (List.mem_of_getElem? (i := 16) rfl)) | exact (hw _ (List.mem_of_getElem? (i := 17) rfl)) | exact (hw _ (List.mem_of_getElem? (i := 18) rfl)) | exact (hw _ (List.mem_of_getElem? (i := 19) rfl)) | exact (hw _ (List.mem_of_getElem? (i := 20) rfl)) | exact (hw _ (List.mem_of_getElem? (i := 21) rfl))
  · first | exact (hw _ (List.mem_of_getElem? (i := 15) rfl)) | exact (hw _ (List.mem_of_getElem? (i := 16) rfl)) | exact (hw _ (List.mem_of_getElem? (i := 17) rfl)) | exact (hw _ (List.mem_of_getElem? (i := 18) rfl)) | exact (hw _ (List.mem_of_getElem? (i := 19) rfl)) | exact (hw _ (List.mem_of_getElem? (i := 20) rfl)) | exact (hw _ (List.mem_of_getElem? (i := 21) rfl))
  · first | exact (hw _ (List.mem_of_getElem? (i := 15) rfl)) | exact (hw _ (List.mem_of_getElem? (i := 16) rfl)) | exact (hw _ (List.mem_of_getElem? (i := 17) rfl)) | exact (hw _ (List.mem_of_getElem? (i := 18) rfl)) | exact (hw _ (List.mem_of_getElem? (i := 19) rfl)) | exact (hw _ (List.mem_of_getElem? (i := 20) rfl)) | exact (hw _ (List.mem_of_getElem? (i := 21) rfl))
  · first | exact (hw _ (List.mem_of_getElem? (i := 15) rfl)) | exact (hw _ (List.mem_of_getElem? (i := 16) rfl)) | exact (hw _ (List.mem_of_getElem? (i := 17) rfl)) | exact (hw _ (List.mem_of_getElem? (i := 18) rfl)) | exact (hw _ (List.mem_of_getElem? (i := 19) rfl)) | exact (hw _ (List.mem_of_getElem? (i := 20) rfl)) | exact (hw _ (List.mem_of_getElem? (i := 21) rfl))
  · first | exact (hw _ (List.mem_of_getElem? (i := 15) rfl)) | exact (hw _ (List.mem_of_getElem? (i := 16) rfl)) | exact (hw _ (List.mem_of_getElem? (i := 17) rfl)) | exact (hw _ (List.mem_of_getElem? (i := 18) rfl)) | exact (hw _ (List.mem_of_getElem? (i := 19) rfl)) | exact (hw _ (List.mem_of_getElem? (i := 20) rfl)) | exact (hw _ (List.mem_of_getElem? (i := 21) rfl))
  · first | exact (hw _ (List.mem_of_getElem? (i := 15) rfl)) | exact (hw _ (List.mem_of_getElem? (i := 16) rfl)) | exact (hw _ (List.mem_of_getElem? (i := 17) rfl)) | exact (hw _ (List.mem_of_getElem? (i := 18) rfl)) | exact (hw _ (List.mem_of_getElem? (i := 19) rfl)) | exact (hw _ (List.mem_of_getElem? (i := 20) rfl)) | exact (hw _ (List.mem_of_getElem? (i := 21) rfl))
  · first | exact (hw _ (List.mem_of_getElem? (i := 15) rfl)) | exact (hw _ (List.mem_of_getElem? (i := 16) rfl)) | exact (hw _ (List.mem_of_getElem? (i := 17) rfl)) | exact (hw _ (List.mem_of_getElem? (i := 18) rfl)) | exact (hw _ (List.mem_of_getElem? (i := 19) rfl)) | exact (hw _ (List.mem_of_getElem? (i := 20) rfl)) | exact (hw _ (List.mem_of_getElem? (i := 21) rfl))
theorem d_prog_10_method_30_14 : decode prog_10_method_30_code 14 = .ok (.ldc_w 401, 3) := by decide +kernel
theorem d_prog_10_method_30_17 : decode prog_10_method_30_code 17 = .ok (.iload_n 0, 1) := by decide +kernel
theorem d_prog_10_method_30_18 : decode prog_10_method_30_code 18 = .ok (.invokevirtual 175, 3) := by decide +kernel
theorem pd_7 : parseMethodDescriptor "(I)I" = some ⟨[.int], some .int⟩ := by decide +kernel
theorem d_prog_10_method_30_21 : decode prog_10_method_30_code 21 = .ok (.ifCond .lt 7, 3) := by decide +kernel
theorem d_prog_10_method_30_28 : decode prog_10_method_30_code 28 = .ok (.iconst 0, 1) := by decide +kernel
theorem d_prog_10_method_30_29 : decode prog_10_method_30_code 29 = .ok (.ireturn, 1) := by decide +kernel
theorem d_prog_10_method_30_24 : decode prog_10_method_30_code 24 = .ok (.iconst 1, 1) := by decide +kernel
theorem d_prog_10_method_30_25 : decode prog_10_method_30_code 25 = .ok (.goto 4, 3) := by decide +kernel
theorem ef_tok (mt : MethodId) (c : Int32) : entryFrame mt #[(.int c)] 1 = mkF mt 0 #[.val (.int c)] [] := by first | (simp [entryFrame, mkF, argsToLocals, Value.category]; done) | rfl
def Q_tok (Z : State) (c : Int32) (cs : Int32) (h0 : Heap) (n0 : Nat) (v : Option Value) (h : Heap) (L : List Loc) : Prop := v = some (.int (own_tok c)) ∧ Fr n0 L ∧ n0 ≤ h.size
set_option maxRecDepth 65536 in
set_option maxHeartbeats 40000000 in
theorem rm_tok (l : Launch) (Z : State) (a0 : Array Value) (hw : ∀ d ∈ tables_1, d.before a0 Z = true) (ws : List Jvm.Cond) (c : Int32) (cs : Int32) (h0 : Heap) (n0 : Nat) (Z0 : n0 ≤ h0.size) (S0 : Sta Z Z.heap "java/lang/String" "COMPACT_STRINGS" "Z" (.int cs)) (hcs : ¬ cs = (0 : Int32)) (O : Old Z n0 h0) (hc0 : 0 ≤ c.toInt) :
    MetFree l (⟨"com/example/foldkey/foldkey/encoding/StructuredFields", "isTokenCharacter", "(C)Z"⟩ : MethodName) (head1 (Jvm.Cond.code (⟨"com/example/foldkey/foldkey/encoding/StructuredFields", "isTokenCharacter", "(C)Z"⟩ : MethodName) prog_10_method_30_code 1 (some .boolean) :: ws) ({ frames := 4, cells := 2, slots := 64, locals := 59 } : Room)) (fun aa UU => aa = #[(.int c)] ∧ Z.Warmed39 UU.vm ∧ UU.heap = h0 ∧ CHv Z own_EL UU.vm h0) (fun _ _ _ _ _ => True) (fun _ UU oo UU' => ∃ vv LL, oo = .returned vv ∧ Q_tok Z c cs h0 n0 vv UU'.heap LL ∧ ReturnedEndW UU oo UU' LL ({ frames := 4, cells := 2, slots := 64, locals := 59 } : Room).cells ({ frames := 4, cells := 2, slots := 64, locals := 59 } : Room).slots) := by
  refine MetFree.of_bodySF (plainFor_of_name pn_1) hisR ?_
  intro p e s mt args below meth cd s₁ Bd hml0 hP hK
  obtain ⟨hA, hZ, hh, hC⟩ := hP
  have hx := Bd.exec
  have hby := Bd.bytes
  have hml : cd.maxLocals = 1 := hml0
  have hown : s.vm.findClass "com/example/foldkey/foldkey/encoding/StructuredFields" = some mt.cls := findClass_of_methodNamed Bd.named
  have hnm := (name_of_methodNamed Bd.named Bd.method).1
  have hlk : meth.locks = false := BodyLoose.notSynchronized Bd
  have hrt := Bd.returns
  have X0 : Stand p l e ({ frames := 4, cells := 2, slots := 64, locals := 59 } : Room) s mt args below meth cd s₁ [] 0 0 := Stand.of_body Bd
  have e0 : s₁.heap = h0 := by rw [← hh, Bd.state]; rfl
  have N0 := Fr.nil n0
  show Win p e below (EndsW s (Q_tok Z c cs h0 n0) ({ frames := 4, cells := 2, slots := 64, locals := 59 } : Room).cells ({ frames := 4, cells := 2, slots := 64, locals := 59 } : Room).slots) s₁ (entryFrame mt args 1)
  rw [hA, ef_tok]
  refine Win.st ?_ (fun tq kq => XS.iloadN X0.here hx rfl (hb hby d_prog_10_method_30_0) rfl kq)
  show Win p e below _ s₁ (mkF mt 1 #[.val (.int c)] [(.int c)])
  obtain ⟨v41, _, ⟨T41, L41, k41, n41⟩, -, X41, ⟨Lc41, hQ41, l41, y41, z41⟩, st41⟩ := Jvm.LawKit.callS X0 hx (y := (⟨"com/example/foldkey/foldkey/encoding/StructuredFields", "isLetter", "(C)Z"⟩ : MethodName)) hown (mvT hZ (hw _ (List.mem_of_getElem? (i := 5) rfl))) (mvT hZ (hw _ (List.mem_of_getElem? (i := 6) rfl))) (mvT hZ (hw _ (List.mem_of_getElem? (i := 3) rfl))) (mvT hZ (hw _ (List.mem_of_getElem? (i := 7) rfl))) (by decide) (backOf (W := 0) (rm_let l Z a0 hw [] c h0 n0 Z0 ) hZ (hw _ (List.mem_of_getElem? (i := 7) rfl)) (hw _ (List.mem_of_getElem? (i := 3) rfl)) (by decide) (by decide)) (g := (mkF mt 1 #[.val (.int c)] [(.int c)])) rfl (by rw [hml]; rfl) (argsL := [(.int c)]) (rest := []) (lenOf pd_1 rfl) rfl (by show 2 * 0 + _ ≤ _; exact Nat.le_of_eq rfl) (hb hby d_prog_10_method_30_1) (fun _ _ => ⟨rfl, e0, (by decide : 0 + 0 ≤ _), (by decide : 0 + 0 ≤ _)⟩)
  dsimp only [Pt.U, Pt.locs, Pt.cells, Pt.slots] at X41 l41 y41 z41 st41 hQ41
  subst y41 z41
  replace X41 : Stand p l e _ s mt args below meth cd T41 L41 0 0 := X41
  obtain ⟨h41, e41⟩ : ∃ z, T41.heap = z := ⟨_, rfl⟩
  rw [e41] at hQ41
  obtain ⟨rfl, Nq41, eh41⟩ := hQ41
  have N41 : Fr n0 L41 := by rw [l41]; exact Fr.app N0 Nq41
  rw [eh41] at e41
  refine Win.st ?_ st41
  show Win p e below _ T41 (mkF mt 4 #[.val (.int c)] [(.int (own_let c))])
  by_cases hc4 : (own_let c) = (0 : Int32)
  · refine Win.st ?_ (fun tq kq => XS.ifNo X41.here hx rfl (hb hby d_prog_10_method_30_4) rfl ((if0 _ _).trans (teq hc4).2) kq)
    show Win p e below _ T41 (mkF mt 7 #[.val (.int c)] [])
    refine Win.st ?_ (fun tq kq => XS.iloadN X41.here hx rfl (hb hby d_prog_10_method_30_7) rfl kq)
    show Win p e below _ T41 (mkF mt 8 #[.val (.int c)] [(.int c)])
    obtain ⟨v42, _, ⟨T42, L42, k42, n42⟩, -, X42, ⟨Lc42, hQ42, l42, y42, z42⟩, st42⟩ := Jvm.LawKit.callS X41 hx (y := (⟨"com/example/foldkey/foldkey/encoding/StructuredFields", "isDigit", "(C)Z"⟩ : MethodName)) hown (mvT hZ (hw _ (List.mem_of_getElem? (i := 11) rfl))) (mvT hZ (hw _ (List.mem_of_getElem? (i := 12) rfl))) (mvT hZ (hw _ (List.mem_of_getElem? (i := 3) rfl))) (mvT hZ (hw _ (List.mem_of_getElem? (i := 13) rfl))) (by decide) (backOf (W := 0) (rm_dig l Z a0 hw [] c h0 n0 Z0 ) hZ (hw _ (List.mem_of_getElem? (i := 13) rfl)) (hw _ (List.mem_of_getElem? (i := 3) rfl)) (by decide) (by decide)) (g := (mkF mt 8 #[.val (.int c)] [(.int c)])) rfl (by rw [hml]; rfl) (argsL := [(.int c)]) (rest := []) (lenOf pd_1 rfl) rfl (by show 2 * 0 + _ ≤ _; exact Nat.le_of_eq rfl) (hb hby d_prog_10_method_30_8) (fun _ _ => ⟨rfl, e41, (by decide : 0 + 0 ≤ _), (by decide : 0 + 0 ≤ _)⟩)
    dsimp only [Pt.U, Pt.locs, Pt.cells, Pt.slots] at X42 l42 y42 z42 st42 hQ42
    subst y42 z42
    replace X42 : Stand p l e _ s mt args below meth cd T42 L42 0 0 := X42
    obtain ⟨h42, e42⟩ : ∃ z, T42.heap = z := ⟨_, rfl⟩
    rw [e42] at hQ42
    obtain ⟨rfl, Nq42, eh42⟩ := hQ42
    have N42 : Fr n0 L42 := by rw [l42]; exact Fr.app N41 Nq42
    rw [eh42] at e42
    refine Win.st ?_ st42
    show Win p e below _ T42 (mkF mt 11 #[.val (.int c)] [(.int (own_dig c))])
    by_cases hc11 : (own_dig c) = (0 : Int32)
    · refine Win.st ?_ (fun tq kq => XS.ifNo X42.here hx rfl (hb hby d_prog_10_method_30_11) rfl ((if0 _ _).trans (teq hc11).2) kq)
      show Win p e below _ T42 (mkF mt 14 #[.val (.int c)] [])
      obtain ⟨li, T43, h43, kk43, lb, lk, X43, e43, E43, hS43, hk43, hZ43, hown43, LE, LC, LV, LA, -, st43⟩ := own_ldcW (s := s) (vm0 := s.vm) X42 hx hZ hown (hw _ (List.mem_of_getElem? (i := 14) rfl)) (own_strw hw) e42 (State.WarmedH.since (State.WarmedH.refl s) 0) (Nat.zero_le _) (own_EW hw) (List.mem_of_getElem? (i := 0) rfl) hC (vs := [(.int (33 : Int32)), (.int (35 : Int32)), (.int (36 : Int32)), (.int (37 : Int32)), (.int (38 : Int32)), (.int (39 : Int32)), (.int (42 : Int32)), (.int (43 : Int32)), (.int (45 : Int32)), (.int (46 : Int32)), (.int (94 : Int32)), (.int (95 : Int32)), (.int (96 : Int32)), (.int (124 : Int32)), (.int (126 : Int32))]) (z := (15 : Int32)) ⟨by decide +kernel, rfl⟩ (by decide) rfl (g := (mkF mt 14 #[.val (.int c)] [])) rfl (hb hby d_prog_10_method_30_14) (n := 60) (by decide +kernel) (by decide) (by decide) (by decide)
      replace X43 : Stand p l e _ (s.setVm T43.vm) mt args below meth cd T43 _ 2 64 := X43
      have ke43 := own_kext E43
      have f44_35 := O.keep ke43 all0
      have Z45 : n0 ≤ h43.size := Nat.le_trans Z0 ke43.1
      refine Win.st ?_ st43
      show Win p e below _ T43 (mkF mt 17 #[.val (.int c)] [(.ref li)])
      refine Win.st ?_ (fun tq kq => XS.iloadN X43.here hx rfl (hb hby d_prog_10_method_30_17) rfl kq)
      show Win p e below _ T43 (mkF mt 18 #[.val (.int c)] [(.int c), (.ref li)])
      obtain ⟨cq46, kq46, q46a, q46b, q46c⟩ := isOf hZ43 e43 LE
      obtain ⟨v46, _, ⟨T46, L46, k46, n46⟩, -, X46, ⟨Lc46, hQ46, l46, y46, z46⟩, st46⟩ := X43.virtualBack hx (y := (⟨"java/lang/String", "indexOf", "(I)I"⟩ : MethodName)) (z := (⟨"java/lang/String", "indexOf", "(I)I"⟩ : MethodName)) hown43 (mvT hZ43 (hw _ (List.mem_of_getElem? (i := 22) rfl))) (mvT hZ43 (hw _ (List.mem_of_getElem? (i := 23) rfl))) (notFace_of_selects (args := #[]) (mvT hZ43 (hw _ (List.mem_of_getElem? (i := 25) rfl)))) (mvT hZ43 (hw _ (List.mem_of_getElem? (i := 25) rfl))) (mvT hZ43 (hw _ (List.mem_of_getElem? (i := 24) rfl))) (by decide) (backOf (W := 0) (rm_io1 l Z a0 hw [] li c lb lk cs h43 n0 Z45 LE LV LC LA S0 hcs f44_35 hc0) hZ43 (hw _ (List.mem_of_getElem? (i := 26) rfl)) (hw _ (List.mem_of_getElem? (i := 15) rfl)) (by decide) (by decide)) q46a q46c (g := (mkF mt 18 #[.val (.int c)] [(.int c), (.ref li)])) rfl (by rw [hml]; rfl) (Steps.refl _) (argsL := [(.int c)]) (rest := []) (lenOf pd_7 rfl) rfl (by show 2 * 0 + _ ≤ _; exact Nat.le_of_eq rfl) (hb hby d_prog_10_method_30_18) (fun _ _ => ⟨rfl, e43, (by decide : 2 + 0 ≤ _), (by decide : 64 + 0 ≤ _)⟩)
      dsimp only [Pt.U, Pt.locs, Pt.cells, Pt.slots] at X46 l46 y46 z46 st46 hQ46
      subst y46 z46
      replace X46 : Stand p l e _ (s.setVm T43.vm) mt args below meth cd T46 L46 2 64 := X46
      obtain ⟨h46, e46⟩ : ∃ z, T46.heap = z := ⟨_, rfl⟩
      rw [e46] at hQ46
      obtain ⟨rr, rfl, Nq46, eh46, hr⟩ := hQ46
      have N46 : Fr n0 L46 := by rw [l46]; exact Fr.app N42 Nq46
      rw [eh46] at e46
      refine Win.tr ?_ st46
      show Win p e below _ T46 (mkF mt 21 #[.val (.int c)] [(.int rr)])
      by_cases hc21 : rr < (0 : Int32)
      · refine Win.st ?_ (fun tq kq => XS.ifYes X46.here hx rfl (pc0 := 21) (pc' := 28) rfl (hb hby d_prog_10_method_30_21) rfl ((if0 _ _).trans (tlt hc21).1) (by decide) (by decide) kq)
        show Win p e below _ T46 (mkF mt 28 #[.val (.int c)] [])
        refine Win.st ?_ (fun tq kq => XS.iconst X46.here hx rfl (hb hby d_prog_10_method_30_28) kq)
        show Win p e below _ T46 (mkF mt 29 #[.val (.int c)] [(.int (0 : Int32))])
        exact Win.retNW (s := s) (vm₁ := T43.vm) X46 hS43 hk43 hx hlk e46 (t := .boolean) (z' := (0 : Int32)) hrt (by simp) (hb hby d_prog_10_method_30_29) (by decide) (by decide) rfl ⟨by rw [own_tok, if_pos hc4, if_pos hc11, if_pos (hr.mp hc21)], N46, Z45⟩
      · refine Win.st ?_ (fun tq kq => XS.ifNo X46.here hx rfl (hb hby d_prog_10_method_30_21) rfl ((if0 _ _).trans (flt hc21).1) kq)
        show Win p e below _ T46 (mkF mt 24 #[.val (.int c)] [])
        refine Win.st ?_ (fun tq kq => XS.iconst X46.here hx rfl (hb hby d_prog_10_method_30_24) kq)
        show Win p e below _ T46 (mkF mt 25 #[.val (.int c)] [(.int (1 : Int32))])
        refine Win.st ?_ (fun tq kq => XS.goto X46.here hx rfl (pc0 := 25) (pc' := 29) rfl (hb hby d_prog_10_method_30_25) (by decide) (by decide) kq)
        show Win p e below _ T46 (mkF mt 29 #[.val (.int c)] [(.int (1 : Int32))])
        exact Win.retNW (s := s) (vm₁ := T43.vm) X46 hS43 hk43 hx hlk e46 (t := .boolean) (z' := (1 : Int32)) hrt (by simp) (hb hby d_prog_10_method_30_29) (by decide) (by decide) rfl ⟨by rw [own_tok, if_pos hc4, if_pos hc11, if_neg (fun q => hc21 (hr.mpr q))], N46, Z45⟩
    · refine Win.st ?_ (fun tq kq => XS.ifYes X42.here hx rfl (pc0 := 11) (pc' := 24) rfl (hb hby d_prog_10_method_30_11) rfl ((if0 _ _).trans (feq hc11).2) (by decide) (by decide) kq)
      show Win p e below _ T42 (mkF mt 24 #[.val (.int c)] [])
      refine Win.st ?_ (fun tq kq => XS.iconst X42.here hx rfl (hb hby d_prog_10_method_30_24) kq)
      show Win p e below _ T42 (mkF mt 25 #[.val (.int c)] [(.int (1 : Int32))])
      refine Win.st ?_ (fun tq kq => XS.goto X42.here hx rfl (pc0 := 25) (pc' := 29) rfl (hb hby d_prog_10_method_30_25) (by decide) (by decide) kq)
      show Win p e below _ T42 (mkF mt 29 #[.val (.int c)] [(.int (1 : Int32))])
      exact Win.retNW (s := s) (vm₁ := s.vm) X42 (State.WarmedH.since (State.WarmedH.refl s) 0) (Nat.zero_le _) hx hlk e42 (t := .boolean) (z' := (1 : Int32)) hrt (by simp) (hb hby d_prog_10_method_30_29) (by decide) (by decide) rfl ⟨by rw [own_tok, if_pos hc4, if_neg hc11], N42, Z0⟩
  · refine Win.st ?_ (fun tq kq => XS.ifYes X41.here hx rfl (pc0 := 4) (pc' := 24) rfl (hb hby d_prog_10_method_30_4) rfl ((if0 _ _).trans (feq hc4).2) (by decide) (by decide) kq)
    show Win p e below _ T41 (mkF mt 24 #[.val (.int c)] [])
    refine Win.st ?_ (fun tq kq => XS.iconst X41.here hx rfl (hb hby d_prog_10_method_30_24) kq)
    show Win p e below _ T41 (mkF mt 25 #[.val (.int c)] [(.int (1 : Int32))])
    refine Win.st ?_ (fun tq kq => XS.goto X41.here hx rfl (pc0 := 25) (pc' := 29) rfl (hb hby d_prog_10_method_30_25) (by decide) (by decide) kq)
    show Win p e below _ T41 (mkF mt 29 #[.val (.int c)] [(.int (1 : Int32))])
    exact Win.retNW (s := s) (vm₁ := s.vm) X41 (State.WarmedH.since (State.WarmedH.refl s) 0) (Nat.zero_le _) hx hlk e41 (t := .boolean) (z' := (1 : Int32)) hrt (by simp) (hb hby d_prog_10_method_30_29) (by decide) (by decide) rfl ⟨by rw [own_tok, if_neg hc4], N41, Z0⟩
theorem ef_law (mt : MethodId) (a : Int32) : entryFrame mt #[(.int a)] maxLocals = mkF mt 0 #[.val (.int a), .unset, .unset] [] := by first | (simp [entryFrame, mkF, argsToLocals, Value.category, maxLocals]; done) | rfl
def Q_law (Z : State) (a : Int32) (cs : Int32) (h0 : Heap) (n0 : Nat) (v : Option Value) (h : Heap) (L : List Loc) : Prop := v = some (.int 1) ∧ Fr n0 L
set_option maxRecDepth 65536 in
set_option maxHeartbeats 40000000 in
theorem rm_law (l : Launch) (Z : State) (a0 : Array Value) (hw : ∀ d ∈ tables_1, d.before a0 Z = true) (ws : List Jvm.Cond) (a : Int32) (cs : Int32) (h0 : Heap) (n0 : Nat) (Z0 : n0 ≤ h0.size) (S0 : Sta Z Z.heap "java/lang/String" "COMPACT_STRINGS" "Z" (.int cs)) (hcs : ¬ cs = (0 : Int32)) (O : Old Z n0 h0) :
    MetFree l x (head1 (Jvm.Cond.code x code maxLocals ret :: ws) room_1) (fun aa UU => aa = #[(.int a)] ∧ Z.Warmed39 UU.vm ∧ UU.heap = h0 ∧ CHv Z own_EL UU.vm h0) (fun _ _ _ _ _ => True) (fun _ UU oo UU' => ∃ vv LL, oo = .returned vv ∧ Q_law Z a cs h0 n0 vv UU'.heap LL ∧ ReturnedEndW UU oo UU' LL 2 64) := by
  refine MetFree.of_bodySF (plainFor_of_name pn_2) hisR ?_
  intro p e s mt args below meth cd s₁ Bd hml0 hP hK
  obtain ⟨hA, hZ, hh, hC⟩ := hP
  have hx := Bd.exec
  have hby := Bd.bytes
  have hml : cd.maxLocals = 3 := hml0
  have hown : s.vm.findClass "com/example/foldkey/foldkey/encoding/StructuredFieldsIsTokenCharacterPinLaw" = some mt.cls := findClass_of_methodNamed Bd.named
  have hnm := (name_of_methodNamed Bd.named Bd.method).1
  have hlk : meth.locks = false := BodyLoose.notSynchronized Bd
  have hrt := Bd.returns
  have X0 : Stand p l e room_1 s mt args below meth cd s₁ [] 0 0 := Stand.of_body Bd
  have e0 : s₁.heap = h0 := by rw [← hh, Bd.state]; rfl
  have N0 := Fr.nil n0
  show Win p e below (EndsW s (Q_law Z a cs h0 n0) 2 64) s₁ (entryFrame mt args maxLocals)
  rw [hA, ef_law]
  refine Win.st ?_ (fun tq kq => XS.iloadN X0.here hx rfl (hb hby at_0) rfl kq)
  show Win p e below _ s₁ (mkF mt 1 #[.val (.int a), .unset, .unset] [(.int a)])
  refine Win.st ?_ (X0.ldcInt hx hown (mvT hZ (hw _ (List.mem_of_getElem? (i := 0) rfl))) (g := (mkF mt 1 #[.val (.int a), .unset, .unset] [(.int a)])) rfl (hb hby at_1))
  show Win p e below _ s₁ (mkF mt 3 #[.val (.int a), .unset, .unset] [(.int (65535 : Int32)), (.int a)])
  refine Win.st ?_ (fun tq kq => XS.iand X0.here hx rfl (hb hby at_3) rfl kq)
  show Win p e below _ s₁ (mkF mt 4 #[.val (.int a), .unset, .unset] [(.int (a &&& (65535 : Int32)))])
  refine Win.st ?_ (fun tq kq => XS.i2c X0.here hx rfl (hb hby at_4) rfl kq)
  show Win p e below _ s₁ (mkF mt 5 #[.val (.int a), .unset, .unset] [(.int ((a &&& (65535 : Int32)).toUInt32.toUInt16.toUInt32.toInt32))])
  obtain ⟨c, hq⟩ : ∃ z, z = ((a &&& (65535 : Int32)).toUInt32.toUInt16.toUInt32.toInt32) := ⟨_, rfl⟩
  have hc0 : 0 ≤ c.toInt := by rw [hq]; exact own_i2c0 _
  rw [← hq]
  show Win p e below _ s₁ (mkF mt 5 #[.val (.int a), .unset, .unset] [(.int c)])
  refine Win.st ?_ (fun tq kq => XS.istoreN X0.here hx rfl (hb hby at_5) rfl (l' := #[.val (.int a), .val (.int c), .unset]) rfl kq)
  show Win p e below _ s₁ (mkF mt 6 #[.val (.int a), .val (.int c), .unset] [])
  refine Win.st ?_ (fun tq kq => XS.iloadN X0.here hx rfl (hb hby at_6) rfl kq)
  show Win p e below _ s₁ (mkF mt 7 #[.val (.int a), .val (.int c), .unset] [(.int c)])
  refine Win.st ?_ (fun tq kq => XS.bipush X0.here hx rfl (hb hby at_7) kq)
  show Win p e below _ s₁ (mkF mt 9 #[.val (.int a), .val (.int c), .unset] [(.int (33 : Int32)), (.int c)])
  by_cases hc9 : c < (33 : Int32)
  · refine Win.st ?_ (fun tq kq => XS.icmpYes X0.here hx rfl (pc0 := 9) (pc' := 29) rfl (hb hby at_9) rfl (tlt hc9).1 (by decide) (by decide) kq)
    show Win p e below _ s₁ (mkF mt 29 #[.val (.int a), .val (.int c), .unset] [])
    refine Win.st ?_ (fun tq kq => XS.iconst X0.here hx rfl (hb hby at_29) kq)
    show Win p e below _ s₁ (mkF mt 30 #[.val (.int a), .val (.int c), .unset] [(.int (0 : Int32))])
    refine Win.st ?_ (fun tq kq => XS.istoreN X0.here hx rfl (hb hby at_30) rfl (l' := #[.val (.int a), .val (.int c), .val (.int (0 : Int32))]) rfl kq)
    show Win p e below _ s₁ (mkF mt 31 #[.val (.int a), .val (.int c), .val (.int (0 : Int32))] [])
    refine Win.st ?_ (fun tq kq => XS.iloadN X0.here hx rfl (hb hby at_31) rfl kq)
    show Win p e below _ s₁ (mkF mt 32 #[.val (.int a), .val (.int c), .val (.int (0 : Int32))] [(.int c)])
    obtain ⟨v47, _, ⟨T47, L47, k47, n47⟩, -, X47, hS47, hgr47, ⟨Lc47, hQ47, l47, y47, z47⟩, st47⟩ := callSS X0 hx (y := (⟨"com/example/foldkey/foldkey/encoding/StructuredFields", "isTokenCharacter", "(C)Z"⟩ : MethodName)) hown (mvT hZ (hw _ (List.mem_of_getElem? (i := 1) rfl))) (mvT hZ (hw _ (List.mem_of_getElem? (i := 2) rfl))) (mvT hZ (hw _ (List.mem_of_getElem? (i := 3) rfl))) (mvT hZ (hw _ (List.mem_of_getElem? (i := 4) rfl))) (by decide) (own_backOfSP (s := s) (vm0 := s.vm) (W := 0) (rm_tok l Z a0 hw [] c cs h0 n0 Z0 S0 hcs O hc0) hZ (hw _ (List.mem_of_getElem? (i := 4) rfl)) (hw _ (List.mem_of_getElem? (i := 3) rfl)) (by decide) (by decide) (own_EW hw) hC) (g := (mkF mt 32 #[.val (.int a), .val (.int c), .val (.int (0 : Int32))] [(.int c)])) rfl (by rw [hml]; rfl) (argsL := [(.int c)]) (rest := []) (lenOf pd_1 rfl) rfl (by show 2 * 0 + _ ≤ _; exact Nat.le_of_eq rfl) (hb hby at_32) (fun _ _ => ⟨rfl, e0, (by decide : 0 + 2 ≤ _), (by decide : 0 + 64 ≤ _)⟩)
    dsimp only [Pt.U, Pt.locs, Pt.cells, Pt.slots] at X47 l47 y47 z47 st47 hQ47 hS47
    obtain ⟨X47, hS47, hZ47, hown47⟩ := rebS (s := s) (vm0 := s.vm) (k0 := 0) (n1 := 0) (State.WarmedH.since (State.WarmedH.refl s) 0) (Nat.le_refl 0) X47 hS47 (Nat.zero_le _) hZ hown
    subst y47 z47
    replace X47 : Stand p l e _ (s.setVm T47.vm) mt args below meth cd T47 L47 2 64 := X47
    obtain ⟨h47, e47⟩ : ∃ z, T47.heap = z := ⟨_, rfl⟩
    rw [e47] at hQ47
    have hk47 : T47.heap.size ≤ h47.size := by rw [e47]; exact Nat.le_refl _
    obtain ⟨rfl, Nq47, z47⟩ := hQ47
    have N47 : Fr n0 L47 := by rw [l47]; exact Fr.app N0 Nq47
    refine Win.tr ?_ st47
    show Win p e below _ T47 (mkF mt 35 #[.val (.int a), .val (.int c), .val (.int (0 : Int32))] [(.int (own_tok c))])
    refine Win.st ?_ (fun tq kq => XS.iloadN X47.here hx rfl (hb hby at_35) rfl kq)
    show Win p e below _ T47 (mkF mt 36 #[.val (.int a), .val (.int c), .val (.int (0 : Int32))] [(.int (0 : Int32)), (.int (own_tok c))])
    refine Win.st ?_ (fun tq kq => XS.icmpNo X47.here hx rfl (hb hby at_36) rfl (teq (own_tA hc0 hc9)).2 kq)
    show Win p e below _ T47 (mkF mt 39 #[.val (.int a), .val (.int c), .val (.int (0 : Int32))] [])
    refine Win.st ?_ (fun tq kq => XS.iconst X47.here hx rfl (hb hby at_39) kq)
    show Win p e below _ T47 (mkF mt 40 #[.val (.int a), .val (.int c), .val (.int (0 : Int32))] [(.int (1 : Int32))])
    refine Win.st ?_ (fun tq kq => XS.goto X47.here hx rfl (pc0 := 40) (pc' := 44) rfl (hb hby at_40) (by decide) (by decide) kq)
    show Win p e below _ T47 (mkF mt 44 #[.val (.int a), .val (.int c), .val (.int (0 : Int32))] [(.int (1 : Int32))])
    exact Win.retNW (s := s) (vm₁ := T47.vm) X47 hS47 hk47 hx hlk e47 (t := .boolean) (z' := (1 : Int32)) hrt (by simp) (hb hby at_44) (by decide) (by decide) rfl ⟨rfl, N47⟩
  · refine Win.st ?_ (fun tq kq => XS.icmpNo X0.here hx rfl (hb hby at_9) rfl (flt hc9).1 kq)
    show Win p e below _ s₁ (mkF mt 12 #[.val (.int a), .val (.int c), .unset] [])
    refine Win.st ?_ (fun tq kq => XS.iloadN X0.here hx rfl (hb hby at_12) rfl kq)
    show Win p e below _ s₁ (mkF mt 13 #[.val (.int a), .val (.int c), .unset] [(.int c)])
    refine Win.st ?_ (fun tq kq => XS.bipush X0.here hx rfl (hb hby at_13) kq)
    show Win p e below _ s₁ (mkF mt 15 #[.val (.int a), .val (.int c), .unset] [(.int (126 : Int32)), (.int c)])
    by_cases hc15 : (126 : Int32) < c
    · refine Win.st ?_ (fun tq kq => XS.icmpYes X0.here hx rfl (pc0 := 15) (pc' := 29) rfl (hb hby at_15) rfl (tlt hc15).2.2.1 (by decide) (by decide) kq)
      show Win p e below _ s₁ (mkF mt 29 #[.val (.int a), .val (.int c), .unset] [])
      refine Win.st ?_ (fun tq kq => XS.iconst X0.here hx rfl (hb hby at_29) kq)
      show Win p e below _ s₁ (mkF mt 30 #[.val (.int a), .val (.int c), .unset] [(.int (0 : Int32))])
      refine Win.st ?_ (fun tq kq => XS.istoreN X0.here hx rfl (hb hby at_30) rfl (l' := #[.val (.int a), .val (.int c), .val (.int (0 : Int32))]) rfl kq)
      show Win p e below _ s₁ (mkF mt 31 #[.val (.int a), .val (.int c), .val (.int (0 : Int32))] [])
      refine Win.st ?_ (fun tq kq => XS.iloadN X0.here hx rfl (hb hby at_31) rfl kq)
      show Win p e below _ s₁ (mkF mt 32 #[.val (.int a), .val (.int c), .val (.int (0 : Int32))] [(.int c)])
      obtain ⟨v48, _, ⟨T48, L48, k48, n48⟩, -, X48, hS48, hgr48, ⟨Lc48, hQ48, l48, y48, z48⟩, st48⟩ := callSS X0 hx (y := (⟨"com/example/foldkey/foldkey/encoding/StructuredFields", "isTokenCharacter", "(C)Z"⟩ : MethodName)) hown (mvT hZ (hw _ (List.mem_of_getElem? (i := 1) rfl))) (mvT hZ (hw _ (List.mem_of_getElem? (i := 2) rfl))) (mvT hZ (hw _ (List.mem_of_getElem? (i := 3) rfl))) (mvT hZ (hw _ (List.mem_of_getElem? (i := 4) rfl))) (by decide) (own_backOfSP (s := s) (vm0 := s.vm) (W := 0) (rm_tok l Z a0 hw [] c cs h0 n0 Z0 S0 hcs O hc0) hZ (hw _ (List.mem_of_getElem? (i := 4) rfl)) (hw _ (List.mem_of_getElem? (i := 3) rfl)) (by decide) (by decide) (own_EW hw) hC) (g := (mkF mt 32 #[.val (.int a), .val (.int c), .val (.int (0 : Int32))] [(.int c)])) rfl (by rw [hml]; rfl) (argsL := [(.int c)]) (rest := []) (lenOf pd_1 rfl) rfl (by show 2 * 0 + _ ≤ _; exact Nat.le_of_eq rfl) (hb hby at_32) (fun _ _ => ⟨rfl, e0, (by decide : 0 + 2 ≤ _), (by decide : 0 + 64 ≤ _)⟩)
      dsimp only [Pt.U, Pt.locs, Pt.cells, Pt.slots] at X48 l48 y48 z48 st48 hQ48 hS48
      obtain ⟨X48, hS48, hZ48, hown48⟩ := rebS (s := s) (vm0 := s.vm) (k0 := 0) (n1 := 0) (State.WarmedH.since (State.WarmedH.refl s) 0) (Nat.le_refl 0) X48 hS48 (Nat.zero_le _) hZ hown
      subst y48 z48
      replace X48 : Stand p l e _ (s.setVm T48.vm) mt args below meth cd T48 L48 2 64 := X48
      obtain ⟨h48, e48⟩ : ∃ z, T48.heap = z := ⟨_, rfl⟩
      rw [e48] at hQ48
      have hk48 : T48.heap.size ≤ h48.size := by rw [e48]; exact Nat.le_refl _
      obtain ⟨rfl, Nq48, z48⟩ := hQ48
      have N48 : Fr n0 L48 := by rw [l48]; exact Fr.app N0 Nq48
      refine Win.tr ?_ st48
      show Win p e below _ T48 (mkF mt 35 #[.val (.int a), .val (.int c), .val (.int (0 : Int32))] [(.int (own_tok c))])
      refine Win.st ?_ (fun tq kq => XS.iloadN X48.here hx rfl (hb hby at_35) rfl kq)
      show Win p e below _ T48 (mkF mt 36 #[.val (.int a), .val (.int c), .val (.int (0 : Int32))] [(.int (0 : Int32)), (.int (own_tok c))])
      refine Win.st ?_ (fun tq kq => XS.icmpNo X48.here hx rfl (hb hby at_36) rfl (teq (own_tB hc0 hc15)).2 kq)
      show Win p e below _ T48 (mkF mt 39 #[.val (.int a), .val (.int c), .val (.int (0 : Int32))] [])
      refine Win.st ?_ (fun tq kq => XS.iconst X48.here hx rfl (hb hby at_39) kq)
      show Win p e below _ T48 (mkF mt 40 #[.val (.int a), .val (.int c), .val (.int (0 : Int32))] [(.int (1 : Int32))])
      refine Win.st ?_ (fun tq kq => XS.goto X48.here hx rfl (pc0 := 40) (pc' := 44) rfl (hb hby at_40) (by decide) (by decide) kq)
      show Win p e below _ T48 (mkF mt 44 #[.val (.int a), .val (.int c), .val (.int (0 : Int32))] [(.int (1 : Int32))])
      exact Win.retNW (s := s) (vm₁ := T48.vm) X48 hS48 hk48 hx hlk e48 (t := .boolean) (z' := (1 : Int32)) hrt (by simp) (hb hby at_44) (by decide) (by decide) rfl ⟨rfl, N48⟩
    · refine Win.st ?_ (fun tq kq => XS.icmpNo X0.here hx rfl (hb hby at_15) rfl (flt hc15).2.2.1 kq)
      show Win p e below _ s₁ (mkF mt 18 #[.val (.int a), .val (.int c), .unset] [])
      refine Win.st ?_ (fun tq kq => XS.iloadN X0.here hx rfl (hb hby at_18) rfl kq)
      show Win p e below _ s₁ (mkF mt 19 #[.val (.int a), .val (.int c), .unset] [(.int c)])
      obtain ⟨v49, _, ⟨T49, L49, k49, n49⟩, -, X49, ⟨Lc49, hQ49, l49, y49, z49⟩, st49⟩ := Jvm.LawKit.callS X0 hx (y := (⟨"com/example/foldkey/foldkey/encoding/StructuredFieldsIsTokenCharacterPinLaw", "isDelimiter", "(C)Z"⟩ : MethodName)) hown (mvT hZ (hw _ (List.mem_of_getElem? (i := 67) rfl))) (mvT hZ (hw _ (List.mem_of_getElem? (i := 68) rfl))) (mvT hZ (hw _ (List.mem_of_getElem? (i := 69) rfl))) (mvT hZ (hw _ (List.mem_of_getElem? (i := 70) rfl))) (by decide) (backOf (W := 0) (rm_del l Z a0 hw [] c h0 n0 Z0 ) hZ (hw _ (List.mem_of_getElem? (i := 70) rfl)) (hw _ (List.mem_of_getElem? (i := 69) rfl)) (by decide) (by decide)) (g := (mkF mt 19 #[.val (.int a), .val (.int c), .unset] [(.int c)])) rfl (by rw [hml]; rfl) (argsL := [(.int c)]) (rest := []) (lenOf pd_1 rfl) rfl (by show 2 * 0 + _ ≤ _; exact Nat.le_of_eq rfl) (hb hby at_19) (fun _ _ => ⟨rfl, e0, (by decide : 0 + 0 ≤ _), (by decide : 0 + 0 ≤ _)⟩)
      dsimp only [Pt.U, Pt.locs, Pt.cells, Pt.slots] at X49 l49 y49 z49 st49 hQ49
      subst y49 z49
      replace X49 : Stand p l e _ s mt args below meth cd T49 L49 0 0 := X49
      obtain ⟨h49, e49⟩ : ∃ z, T49.heap = z := ⟨_, rfl⟩
      rw [e49] at hQ49
      obtain ⟨rfl, Nq49, eh49⟩ := hQ49
      have N49 : Fr n0 L49 := by rw [l49]; exact Fr.app N0 Nq49
      rw [eh49] at e49
      refine Win.st ?_ st49
      show Win p e below _ T49 (mkF mt 22 #[.val (.int a), .val (.int c), .unset] [(.int (own_del c))])
      by_cases hc22 : (own_del c) = (0 : Int32)
      · refine Win.st ?_ (fun tq kq => XS.ifNo X49.here hx rfl (hb hby at_22) rfl ((if0 _ _).trans (teq hc22).2) kq)
        show Win p e below _ T49 (mkF mt 25 #[.val (.int a), .val (.int c), .unset] [])
        refine Win.st ?_ (fun tq kq => XS.iconst X49.here hx rfl (hb hby at_25) kq)
        show Win p e below _ T49 (mkF mt 26 #[.val (.int a), .val (.int c), .unset] [(.int (1 : Int32))])
        refine Win.st ?_ (fun tq kq => XS.goto X49.here hx rfl (pc0 := 26) (pc' := 30) rfl (hb hby at_26) (by decide) (by decide) kq)
        show Win p e below _ T49 (mkF mt 30 #[.val (.int a), .val (.int c), .unset] [(.int (1 : Int32))])
        refine Win.st ?_ (fun tq kq => XS.istoreN X49.here hx rfl (hb hby at_30) rfl (l' := #[.val (.int a), .val (.int c), .val (.int (1 : Int32))]) rfl kq)
        show Win p e below _ T49 (mkF mt 31 #[.val (.int a), .val (.int c), .val (.int (1 : Int32))] [])
        refine Win.st ?_ (fun tq kq => XS.iloadN X49.here hx rfl (hb hby at_31) rfl kq)
        show Win p e below _ T49 (mkF mt 32 #[.val (.int a), .val (.int c), .val (.int (1 : Int32))] [(.int c)])
        obtain ⟨v50, _, ⟨T50, L50, k50, n50⟩, -, X50, hS50, hgr50, ⟨Lc50, hQ50, l50, y50, z50⟩, st50⟩ := callSS X49 hx (y := (⟨"com/example/foldkey/foldkey/encoding/StructuredFields", "isTokenCharacter", "(C)Z"⟩ : MethodName)) hown (mvT hZ (hw _ (List.mem_of_getElem? (i := 1) rfl))) (mvT hZ (hw _ (List.mem_of_getElem? (i := 2) rfl))) (mvT hZ (hw _ (List.mem_of_getElem? (i := 3) rfl))) (mvT hZ (hw _ (List.mem_of_getElem? (i := 4) rfl))) (by decide) (own_backOfSP (s := s) (vm0 := s.vm) (W := 0) (rm_tok l Z a0 hw [] c cs h0 n0 Z0 S0 hcs O hc0) hZ (hw _ (List.mem_of_getElem? (i := 4) rfl)) (hw _ (List.mem_of_getElem? (i := 3) rfl)) (by decide) (by decide) (own_EW hw) hC) (g := (mkF mt 32 #[.val (.int a), .val (.int c), .val (.int (1 : Int32))] [(.int c)])) rfl (by rw [hml]; rfl) (argsL := [(.int c)]) (rest := []) (lenOf pd_1 rfl) rfl (by show 2 * 0 + _ ≤ _; exact Nat.le_of_eq rfl) (hb hby at_32) (fun _ _ => ⟨rfl, e49, (by decide : 0 + 2 ≤ _), (by decide : 0 + 64 ≤ _)⟩)
        dsimp only [Pt.U, Pt.locs, Pt.cells, Pt.slots] at X50 l50 y50 z50 st50 hQ50 hS50
        obtain ⟨X50, hS50, hZ50, hown50⟩ := rebS (s := s) (vm0 := s.vm) (k0 := 0) (n1 := 0) (State.WarmedH.since (State.WarmedH.refl s) 0) (Nat.le_refl 0) X50 hS50 (Nat.zero_le _) hZ hown
        subst y50 z50
        replace X50 : Stand p l e _ (s.setVm T50.vm) mt args below meth cd T50 L50 2 64 := X50
        obtain ⟨h50, e50⟩ : ∃ z, T50.heap = z := ⟨_, rfl⟩
        rw [e50] at hQ50
        have hk50 : T50.heap.size ≤ h50.size := by rw [e50]; exact Nat.le_refl _
        obtain ⟨rfl, Nq50, z50⟩ := hQ50
        have N50 : Fr n0 L50 := by rw [l50]; exact Fr.app N49 Nq50
        refine Win.tr ?_ st50
        show Win p e below _ T50 (mkF mt 35 #[.val (.int a), .val (.int c), .val (.int (1 : Int32))] [(.int (own_tok c))])
        refine Win.st ?_ (fun tq kq => XS.iloadN X50.here hx rfl (hb hby at_35) rfl kq)
        show Win p e below _ T50 (mkF mt 36 #[.val (.int a), .val (.int c), .val (.int (1 : Int32))] [(.int (1 : Int32)), (.int (own_tok c))])
        refine Win.st ?_ (fun tq kq => XS.icmpNo X50.here hx rfl (hb hby at_36) rfl (teq ((own_tC hc0 hc9 hc15).1 hc22)).2 kq)
        show Win p e below _ T50 (mkF mt 39 #[.val (.int a), .val (.int c), .val (.int (1 : Int32))] [])
        refine Win.st ?_ (fun tq kq => XS.iconst X50.here hx rfl (hb hby at_39) kq)
        show Win p e below _ T50 (mkF mt 40 #[.val (.int a), .val (.int c), .val (.int (1 : Int32))] [(.int (1 : Int32))])
        refine Win.st ?_ (fun tq kq => XS.goto X50.here hx rfl (pc0 := 40) (pc' := 44) rfl (hb hby at_40) (by decide) (by decide) kq)
        show Win p e below _ T50 (mkF mt 44 #[.val (.int a), .val (.int c), .val (.int (1 : Int32))] [(.int (1 : Int32))])
        exact Win.retNW (s := s) (vm₁ := T50.vm) X50 hS50 hk50 hx hlk e50 (t := .boolean) (z' := (1 : Int32)) hrt (by simp) (hb hby at_44) (by decide) (by decide) rfl ⟨rfl, N50⟩
      · refine Win.st ?_ (fun tq kq => XS.ifYes X49.here hx rfl (pc0 := 22) (pc' := 29) rfl (hb hby at_22) rfl ((if0 _ _).trans (feq hc22).2) (by decide) (by decide) kq)
        show Win p e below _ T49 (mkF mt 29 #[.val (.int a), .val (.int c), .unset] [])
        refine Win.st ?_ (fun tq kq => XS.iconst X49.here hx rfl (hb hby at_29) kq)
        show Win p e below _ T49 (mkF mt 30 #[.val (.int a), .val (.int c), .unset] [(.int (0 : Int32))])
        refine Win.st ?_ (fun tq kq => XS.istoreN X49.here hx rfl (hb hby at_30) rfl (l' := #[.val (.int a), .val (.int c), .val (.int (0 : Int32))]) rfl kq)
        show Win p e below _ T49 (mkF mt 31 #[.val (.int a), .val (.int c), .val (.int (0 : Int32))] [])
        refine Win.st ?_ (fun tq kq => XS.iloadN X49.here hx rfl (hb hby at_31) rfl kq)
        show Win p e below _ T49 (mkF mt 32 #[.val (.int a), .val (.int c), .val (.int (0 : Int32))] [(.int c)])
        obtain ⟨v51, _, ⟨T51, L51, k51, n51⟩, -, X51, hS51, hgr51, ⟨Lc51, hQ51, l51, y51, z51⟩, st51⟩ := callSS X49 hx (y := (⟨"com/example/foldkey/foldkey/encoding/StructuredFields", "isTokenCharacter", "(C)Z"⟩ : MethodName)) hown (mvT hZ (hw _ (List.mem_of_getElem? (i := 1) rfl))) (mvT hZ (hw _ (List.mem_of_getElem? (i := 2) rfl))) (mvT hZ (hw _ (List.mem_of_getElem? (i := 3) rfl))) (mvT hZ (hw _ (List.mem_of_getElem? (i := 4) rfl))) (by decide) (own_backOfSP (s := s) (vm0 := s.vm) (W := 0) (rm_tok l Z a0 hw [] c cs h0 n0 Z0 S0 hcs O hc0) hZ (hw _ (List.mem_of_getElem? (i := 4) rfl)) (hw _ (List.mem_of_getElem? (i := 3) rfl)) (by decide) (by decide) (own_EW hw) hC) (g := (mkF mt 32 #[.val (.int a), .val (.int c), .val (.int (0 : Int32))] [(.int c)])) rfl (by rw [hml]; rfl) (argsL := [(.int c)]) (rest := []) (lenOf pd_1 rfl) rfl (by show 2 * 0 + _ ≤ _; exact Nat.le_of_eq rfl) (hb hby at_32) (fun _ _ => ⟨rfl, e49, (by decide : 0 + 2 ≤ _), (by decide : 0 + 64 ≤ _)⟩)
        dsimp only [Pt.U, Pt.locs, Pt.cells, Pt.slots] at X51 l51 y51 z51 st51 hQ51 hS51
        obtain ⟨X51, hS51, hZ51, hown51⟩ := rebS (s := s) (vm0 := s.vm) (k0 := 0) (n1 := 0) (State.WarmedH.since (State.WarmedH.refl s) 0) (Nat.le_refl 0) X51 hS51 (Nat.zero_le _) hZ hown
        subst y51 z51
        replace X51 : Stand p l e _ (s.setVm T51.vm) mt args below meth cd T51 L51 2 64 := X51
        obtain ⟨h51, e51⟩ : ∃ z, T51.heap = z := ⟨_, rfl⟩
        rw [e51] at hQ51
        have hk51 : T51.heap.size ≤ h51.size := by rw [e51]; exact Nat.le_refl _
        obtain ⟨rfl, Nq51, z51⟩ := hQ51
        have N51 : Fr n0 L51 := by rw [l51]; exact Fr.app N49 Nq51
        refine Win.tr ?_ st51
        show Win p e below _ T51 (mkF mt 35 #[.val (.int a), .val (.int c), .val (.int (0 : Int32))] [(.int (own_tok c))])
        refine Win.st ?_ (fun tq kq => XS.iloadN X51.here hx rfl (hb hby at_35) rfl kq)
        show Win p e below _ T51 (mkF mt 36 #[.val (.int a), .val (.int c), .val (.int (0 : Int32))] [(.int (0 : Int32)), (.int (own_tok c))])
        refine Win.st ?_ (fun tq kq => XS.icmpNo X51.here hx rfl (hb hby at_36) rfl (teq ((own_tC hc0 hc9 hc15).2 hc22)).2 kq)
        show Win p e below _ T51 (mkF mt 39 #[.val (.int a), .val (.int c), .val (.int (0 : Int32))] [])
        refine Win.st ?_ (fun tq kq => XS.iconst X51.here hx rfl (hb hby at_39) kq)
        show Win p e below _ T51 (mkF mt 40 #[.val (.int a), .val (.int c), .val (.int (0 : Int32))] [(.int (1 : Int32))])
        refine Win.st ?_ (fun tq kq => XS.goto X51.here hx rfl (pc0 := 40) (pc' := 44) rfl (hb hby at_40) (by decide) (by decide) kq)
        show Win p e below _ T51 (mkF mt 44 #[.val (.int a), .val (.int c), .val (.int (0 : Int32))] [(.int (1 : Int32))])
        exact Win.retNW (s := s) (vm₁ := T51.vm) X51 hS51 hk51 hx hlk e51 (t := .boolean) (z' := (1 : Int32)) hrt (by simp) (hb hby at_44) (by decide) (by decide) rfl ⟨rfl, N51⟩
set_option maxRecDepth 65536 in
set_option maxHeartbeats 40000000 in
theorem comes_1 {Post : Tables → Env → Array Value → State → Outcome → State → Prop} (hpost : ∀ tb e args s v u, (limb_1_1.after args s (.returned v) u = true ∧ limb_1_2.after args s (.returned v) u = true ∧ True) → ReturnedEndW s (.returned v) u (Jvm.fieldLocs frame_1_writes args s ++ Jvm.arrayLocs frame_1_arrays args s ++ Jvm.staticLocs frame_1_statics s) 8 1088 → Post tb e args s (.returned v) u) :
    ArmFor flags0 classFile x code maxLocals ret World_1 tables_1 room_1 Calls_1 rest_1 Pre_1 Post := by
  intro l hfl _ _ p e ha hc hk s m args below hf hA hF happ hP
  obtain ⟨hcalls, hrest, hpre⟩ := hP
  obtain ⟨-, -, -, hnamed, -, -, -, hat⟩ := (Spec.applies_iff hf).mp happ
  obtain ⟨hg, hn⟩ := and_e (Cond.before_iff.mp (show (Jvm.Cond.and given_1 narrow_1).before args s = true from hpre))
  obtain ⟨ga0, gb0⟩ := and_e hg
  obtain ⟨w0, rfl⟩ : ∃ w0 : Value, args = #[w0] := by
    have hs : args.size = 1 := by simpa [Cond.value, given_1] using ga0
    obtain ⟨L⟩ := args
    match L, hs with
    | [w0], _ => exact ⟨w0, rfl⟩
  have hw := fun d (hd : d ∈ tables_1) => atoms_spec (ws := Jvm.Cond.code x code maxLocals ret :: tables_1) hat d (List.mem_cons_of_mem _ hd)
  have hfit : Fit s := fun {y c} hc i hi => by
    obtain ⟨ha, rfl⟩ := Array.getElem?_eq_some_iff.mp hc
    have q := List.all_eq_true.mp ((Array.all_eq_true_iff_forall_mem.mp hF) _ (Array.getElem_mem ha)) i (List.mem_range.mpr hi)
    simpa [Array.getElem?_eq_getElem hi] using q
  obtain ⟨hsets, hown0⟩ := atoms_of _ (rest_1_c_eq ▸ (show rest_1_c.before _ s = true from hrest))
  have hr0 := Cond.before_iff.mp hown0
  obtain ⟨i0, ei0⟩ := is_v gb0
  obtain rfl : w0 = (.int i0) := Option.some.inj ei0
  obtain ⟨cs, hcs0⟩ := is_v (Cond.before_iff.mp (hsets _ (List.mem_of_getElem? (i := 1) rfl)))
  have hcs : ¬ cs = (0 : Int32) := fun q => by
    have z := Cond.before_iff.mp (hsets _ (List.mem_of_getElem? (i := 2) rfl))
    have z2 := not_v z
    have z3 := eq_i hcs0 (Term.int_eval (0 : Int32)) (by rw [q])
    rw [z3] at z2
    simp at z2
  have S0 := Sta.start hcs0 (Or.inl (hsets _ (List.mem_of_getElem? (i := 0) rfl)))
  have hC : CHv s own_EL s.vm s.heap := CHv.start (own_EW hw) (fun p hp => by
    cases List.mem_singleton.mp hp
    exact hcalls.1 _ (List.mem_of_getElem? (i := 0) rfl)) (hsets _ (List.mem_of_getElem? (i := 2) rfl)) (hw _ (List.mem_of_getElem? (i := 17) rfl)) (hw _ (List.mem_of_getElem? (i := 16) rfl))
  obtain ⟨n, o, h1, h2, h3, _, L, rfl, ⟨rfl, N⟩, hq⟩ := rm_law l s _ hw tables_1 i0 cs s.heap s.heap.size (Nat.le_refl _) S0 hcs (Old.start s) p e ha hc hk s m _ below hf ((Spec.applies_iff_loose hf).mp happ).1 ⟨rfl, State.Warmed39.refl s, rfl, hC⟩ trivial
  refine ⟨n, _, h1, h2, h3, hpost _ _ _ _ _ _ ⟨Cond.after_iff.mpr rfl, Cond.after_iff.mpr (eq_i res_at (Term.int_eval (1)) rfl), trivial⟩ ⟨hq.1, hq.2.1, hq.2.2.1, (hq.2.2.2.sift fun y hy => Or.inr (N y hy)).mono (by decide) (by decide)⟩⟩
theorem main_1_1 : Claimed_1_1 := comes_1 fun _ _ _ _ _ _ h hF => ⟨h.1, hF⟩
theorem main_1_2 : Claimed_1_2 := comes_1 fun _ _ _ _ _ _ h hF => ⟨h.2.1, hF⟩
end Jvm.Pilot.@@N@@
namespace Jvm.Pilot.@@N@@
open Jvm Jvm.ClassFile Sem Op Lib Jvm.Free Jvm.Stand Jvm.Pilot.@@N@@.Jvm.D
/-! MADE BY PROGRAM (witnessworld.py) out of the Statement's table words and the real class files: 18 classes; the members and pool entries that the words name. The judged class is class 1, her method 2. -/
namespace start1
open Jvm.ClassFile
def u (s : String) : CpInfo := .utf8 (stringToUtf16 s)
/-- a pool by its gaps: so many unusable entries, then the entry; so many at the end -/
def gap : Nat → List CpInfo → List CpInfo
  | 0, r => r
  | n + 1, r => .unusable :: gap n r
def poolList (es : List (Nat × CpInfo)) (last : Nat) : List CpInfo := es.foldr (fun e r => gap e.1 (e.2 :: r)) (gap last [])
def pool (es : List (Nat × CpInfo)) (last : Nat) : Array CpInfo := ⟨poolList es last⟩
def fileOf (pool : Array CpInfo) (this : Nat) (attrs : Array Attribute := #[]) (ms : Array MethodInfo := #[]) (fl : Nat := 33) (sup : Nat := 0) (ifs : Array Nat := #[]) (fds : Array FieldInfo := #[]) : ClassFile where
  minorVersion := 0
  majorVersion := 65
  constantPool := pool
  accessFlags := fl
  thisClass := this
  superClass := sup
  interfaces := ifs
  fields := fds
  methods := ms
  attributes := attrs
def plain (name : String) (sup : Option ClassId) : Class where
  name := name
  kind := .ordinary
  loader := none
  accessFlags := 33
  super := sup
  interfaces := #[]
  cf := none
  fields := #[]
  methods := #[]
  instanceTypes := #[]
  staticTypes := #[]
  resolved := #[]
  callSites := []
  init := .initialized
  statics := none
  mirror := none

def pool0 : Array CpInfo := pool [(5, u "<init>"), (0, u "()V"), (1, .class_ 10), (1, u "java/lang/Object")] 113

def k0m0 : Method := { name := "<init>", desc := "()V", sig := { parameters := [], returnType := none }, accessFlags := 1, code := none }
/-- java/lang/Object -/
def k0 : Class := { plain "java/lang/Object" none with
  accessFlags := 33
  interfaces := #[]
  cf := some (fileOf pool0 8 #[] #[{ accessFlags := 1, nameIndex := 5, descriptorIndex := 6, attributes := #[] }] 33 0 #[] #[])
  fields := #[]
  methods := #[k0m0]
  instanceTypes := #[]
  staticTypes := #[]
  resolved := Array.replicate 124 none
  statics := none }

def pool1 : Array CpInfo := pool [(2, .class_ 4), (1, u "java/lang/Object"), (0, u "<init>"), (0, u "()V"), (0, .integer 65535), (0, .methodref 9 10), (0, .class_ 11), (0, .nameAndType 12 13), (0, u "com/example/foldkey/foldkey/encoding/StructuredFieldsIsTokenCharacterPinLaw"), (0, u "isDelimiter"), (0, u "(C)Z"), (0, .methodref 15 16), (0, .class_ 17), (0, .nameAndType 18 13), (0, u "com/example/foldkey/foldkey/encoding/StructuredFields"), (0, u "isTokenCharacter"), (3, u "law"), (0, u "(I)Z")] 2

def k1m0 : Method := { name := "<init>", desc := "()V", sig := { parameters := [], returnType := none }, accessFlags := 1, code := none }
def k1c1 : Code := { maxStack := 2, maxLocals := 1, code := method_2_code, exceptionTable := #[], attributes := #[] }
def k1m1 : Method := { name := "isDelimiter", desc := "(C)Z", sig := { parameters := [.char], returnType := some .boolean }, accessFlags := 10, code := some k1c1 }
def k1c2 : Code := { maxStack := 2, maxLocals := 3, code := code, exceptionTable := #[], attributes := #[] }
def k1m2 : Method := { name := "law", desc := "(I)Z", sig := { parameters := [.int], returnType := some .boolean }, accessFlags := 9, code := some k1c2 }
/-- com/example/foldkey/foldkey/encoding/StructuredFieldsIsTokenCharacterPinLaw -/
def k1 : Class := { plain "com/example/foldkey/foldkey/encoding/StructuredFieldsIsTokenCharacterPinLaw" (some 0) with
  accessFlags := 49
  interfaces := #[]
  cf := some (fileOf pool1 9 #[] #[{ accessFlags := 1, nameIndex := 5, descriptorIndex := 6, attributes := #[] }, { accessFlags := 10, nameIndex := 12, descriptorIndex := 13, attributes := #[] }, { accessFlags := 9, nameIndex := 22, descriptorIndex := 23, attributes := #[] }] 49 2 #[] #[])
  fields := #[]
  methods := #[k1m0, k1m1, k1m2]
  instanceTypes := #[]
  staticTypes := #[]
  resolved := Array.replicate 26 none
  statics := none }

def pool2 : Array CpInfo := pool [(2, .class_ 4), (1, u "java/lang/Object"), (3, .class_ 10), (1, u "com/example/foldkey/foldkey/encoding/StructuredFields"), (0, u "input"), (0, u "Ljava/lang/String;"), (11, .class_ 26), (1, u "com/example/foldkey/foldkey/encoding/StructuredFields$Item"), (18, .class_ 47), (1, u "com/example/foldkey/foldkey/encoding/StructuredFields$InnerList"), (34, .class_ 83), (0, u "java/lang/String"), (18, u "position"), (0, u "I"), (60, .methodref 8 165), (0, .nameAndType 166 167), (0, u "isLowercaseLetter"), (0, u "(C)Z"), (2, .methodref 8 171), (0, .nameAndType 172 167), (0, u "isDigit"), (2, .methodref 82 176), (0, .nameAndType 177 178), (0, u "indexOf"), (0, u "(I)I"), (18, .methodref 8 198), (0, .nameAndType 199 167), (0, u "isLetter"), (91, u "isTokenCharacter"), (0, .class_ 293), (0, u "com/example/foldkey/foldkey/encoding/StructuredFields$Token"), (107, .string 402), (0, u "!#$%&'*+-.^_`|~"), (6, u "LARGEST_INTEGER"), (0, u "J"), (1, u "LARGEST_INTEGER_DIGITS"), (1, u "LARGEST_DECIMAL_INTEGER_DIGITS"), (1, u "LARGEST_DECIMAL_FRACTION_DIGITS"), (1, u "STRING_CHARACTERS"), (10, .class_ 430), (0, u "com/example/foldkey/foldkey/encoding/StructuredFields$Member")] 73

def k2c0 : Code := { maxStack := 2, maxLocals := 1, code := prog_10_method_26_code, exceptionTable := #[], attributes := #[] }
def k2m0 : Method := { name := "isLowercaseLetter", desc := "(C)Z", sig := { parameters := [.char], returnType := some .boolean }, accessFlags := 10, code := some k2c0 }
def k2c1 : Code := { maxStack := 2, maxLocals := 1, code := prog_10_method_27_code, exceptionTable := #[], attributes := #[] }
def k2m1 : Method := { name := "isLetter", desc := "(C)Z", sig := { parameters := [.char], returnType := some .boolean }, accessFlags := 10, code := some k2c1 }
def k2c2 : Code := { maxStack := 2, maxLocals := 1, code := prog_10_method_28_code, exceptionTable := #[], attributes := #[] }
def k2m2 : Method := { name := "isDigit", desc := "(C)Z", sig := { parameters := [.char], returnType := some .boolean }, accessFlags := 10, code := some k2c2 }
def k2c3 : Code := { maxStack := 2, maxLocals := 1, code := prog_10_method_30_code, exceptionTable := #[], attributes := #[] }
def k2m3 : Method := { name := "isTokenCharacter", desc := "(C)Z", sig := { parameters := [.char], returnType := some .boolean }, accessFlags := 8, code := some k2c3 }
/-- com/example/foldkey/foldkey/encoding/StructuredFields -/
def k2 : Class := { plain "com/example/foldkey/foldkey/encoding/StructuredFields" (some 0) with
  accessFlags := 49
  interfaces := #[]
  cf := some (fileOf pool2 8 #[.nestMembers #[292, 45, 24, 429]] #[{ accessFlags := 10, nameIndex := 166, descriptorIndex := 167, attributes := #[] }, { accessFlags := 10, nameIndex := 199, descriptorIndex := 167, attributes := #[] }, { accessFlags := 10, nameIndex := 172, descriptorIndex := 167, attributes := #[] }, { accessFlags := 8, nameIndex := 291, descriptorIndex := 167, attributes := #[] }] 49 2 #[] #[{ accessFlags := 26, nameIndex := 409, descriptorIndex := 410, attributes := #[] }, { accessFlags := 26, nameIndex := 412, descriptorIndex := 103, attributes := #[] }, { accessFlags := 26, nameIndex := 414, descriptorIndex := 103, attributes := #[] }, { accessFlags := 26, nameIndex := 416, descriptorIndex := 103, attributes := #[] }, { accessFlags := 26, nameIndex := 418, descriptorIndex := 12, attributes := #[] }, { accessFlags := 18, nameIndex := 11, descriptorIndex := 12, attributes := #[] }, { accessFlags := 2, nameIndex := 102, descriptorIndex := 103, attributes := #[] }])
  fields := #[{ name := "LARGEST_INTEGER", type := .long, accessFlags := 26, slot := 0, constantValue := 0 }, { name := "LARGEST_INTEGER_DIGITS", type := .int, accessFlags := 26, slot := 1, constantValue := 0 }, { name := "LARGEST_DECIMAL_INTEGER_DIGITS", type := .int, accessFlags := 26, slot := 2, constantValue := 0 }, { name := "LARGEST_DECIMAL_FRACTION_DIGITS", type := .int, accessFlags := 26, slot := 3, constantValue := 0 }, { name := "STRING_CHARACTERS", type := (.object "java/lang/String"), accessFlags := 26, slot := 4, constantValue := 0 }, { name := "input", type := (.object "java/lang/String"), accessFlags := 18, slot := 0, constantValue := 0 }, { name := "position", type := .int, accessFlags := 2, slot := 1, constantValue := 0 }]
  methods := #[k2m0, k2m1, k2m2, k2m3]
  instanceTypes := #[(.object "java/lang/String"), .int]
  staticTypes := #[.long, .int, .int, .int, (.object "java/lang/String")]
  resolved := Array.replicate 504 none
  statics := none }

def pool3 : Array CpInfo := pool [(1, .class_ 2), (0, u "java/io/Serializable"), (0, .class_ 4), (0, u "java/lang/Object")] 2

/-- java/io/Serializable -/
def k3 : Class := { plain "java/io/Serializable" (some 0) with
  accessFlags := 1537
  interfaces := #[]
  cf := some (fileOf pool3 1 #[] #[] 1537 3 #[] #[])
  fields := #[]
  methods := #[]
  instanceTypes := #[]
  staticTypes := #[]
  resolved := Array.replicate 7 none
  statics := none }

def pool4 : Array CpInfo := pool [(1, .class_ 2), (0, u "java/lang/Comparable"), (0, .class_ 4), (0, u "java/lang/Object")] 7

/-- java/lang/Comparable -/
def k4 : Class := { plain "java/lang/Comparable" (some 0) with
  accessFlags := 1537
  interfaces := #[]
  cf := some (fileOf pool4 1 #[] #[] 1537 3 #[] #[])
  fields := #[]
  methods := #[]
  instanceTypes := #[]
  staticTypes := #[]
  resolved := Array.replicate 12 none
  statics := none }

def pool5 : Array CpInfo := pool [(2, .class_ 4), (1, u "java/lang/CharSequence"), (42, .class_ 48), (0, u "java/lang/CharSequence$1CodePointIterator"), (10, .class_ 60), (0, u "java/lang/CharSequence$1CharIterator"), (5, .class_ 67), (0, u "java/lang/Object")] 63

/-- java/lang/CharSequence -/
def k5 : Class := { plain "java/lang/CharSequence" (some 0) with
  accessFlags := 1537
  interfaces := #[]
  cf := some (fileOf pool5 2 #[.nestMembers #[47, 59]] #[] 1537 66 #[] #[])
  fields := #[]
  methods := #[]
  instanceTypes := #[]
  staticTypes := #[]
  resolved := Array.replicate 131 none
  statics := none }

def pool6 : Array CpInfo := pool [(1, .class_ 2), (0, u "java/lang/constant/Constable"), (0, .class_ 4), (0, u "java/lang/Object")] 6

/-- java/lang/constant/Constable -/
def k6 : Class := { plain "java/lang/constant/Constable" (some 0) with
  accessFlags := 1537
  interfaces := #[]
  cf := some (fileOf pool6 1 #[] #[] 1537 3 #[] #[])
  fields := #[]
  methods := #[]
  instanceTypes := #[]
  staticTypes := #[]
  resolved := Array.replicate 11 none
  statics := none }

def pool7 : Array CpInfo := pool [(1, .class_ 2), (0, u "java/lang/constant/ConstantDesc"), (0, .class_ 4), (0, u "java/lang/Object")] 32

/-- java/lang/constant/ConstantDesc -/
def k7 : Class := { plain "java/lang/constant/ConstantDesc" (some 0) with
  accessFlags := 1537
  interfaces := #[]
  cf := some (fileOf pool7 1 #[] #[] 1537 3 #[] #[])
  fields := #[]
  methods := #[]
  instanceTypes := #[]
  staticTypes := #[]
  resolved := Array.replicate 37 none
  statics := none }

def pool8 : Array CpInfo := pool [(2, .class_ 4), (1, u "java/lang/Object"), (0, u "<init>"), (0, u "()V"), (2, .fieldref 10 11), (0, .class_ 12), (0, .nameAndType 13 14), (0, u "java/lang/String"), (0, u "value"), (0, u "[B"), (0, .fieldref 10 16), (0, .nameAndType 17 18), (0, u "coder"), (0, u "B"), (2, u "hash"), (0, u "I"), (2, u "hashIsZero"), (0, u "Z"), (11, .fieldref 10 39), (0, .nameAndType 40 26), (0, u "COMPACT_STRINGS"), (66, .class_ 109), (1, u "java/lang/StringLatin1"), (32, u "()Z"), (191, u "()I"), (0, .methodref 10 336), (0, .nameAndType 17 337), (0, u "()B"), (154, .methodref 10 493), (0, .nameAndType 494 142), (0, u "isLatin1"), (10, .methodref 10 506), (0, .nameAndType 507 334), (0, u "length"), (67, .class_ 576), (0, u "java/lang/CharSequence"), (22, u "CASE_INSENSITIVE_ORDER"), (0, u "Ljava/util/Comparator;"), (32, .methodref 10 634), (0, .nameAndType 635 636), (0, u "indexOf"), (0, u "(II)I"), (0, .methodref 107 638), (0, .nameAndType 635 639), (0, u "([BIII)I"), (125, u "(I)I"), (335, u "serialPersistentFields"), (0, u "[Ljava/io/ObjectStreamField;"), (0, .class_ 1104), (0, u "java/lang/String$CaseInsensitiveComparator"), (1, .class_ 1107), (0, u "java/io/Serializable"), (0, .class_ 1109), (0, u "java/lang/Comparable"), (0, .class_ 1111), (0, u "java/lang/constant/Constable"), (0, .class_ 1113), (0, u "java/lang/constant/ConstantDesc"), (2, u "serialVersionUID"), (0, u "J"), (3, u "REPL"), (0, u "C"), (2, u "LATIN1"), (1, u "UTF16")] 323

def k8m0 : Method := { name := "<init>", desc := "()V", sig := { parameters := [], returnType := none }, accessFlags := 1, code := none }
def k8c1 : Code := { maxStack := 2, maxLocals := 1, code := jdk_42_method_54_code, exceptionTable := #[], attributes := #[] }
def k8m1 : Method := { name := "length", desc := "()I", sig := { parameters := [], returnType := some .int }, accessFlags := 1, code := some k8c1 }
def k8c2 : Code := { maxStack := 3, maxLocals := 2, code := jdk_42_method_79_code, exceptionTable := #[], attributes := #[] }
def k8m2 : Method := { name := "indexOf", desc := "(I)I", sig := { parameters := [.int], returnType := some .int }, accessFlags := 1, code := some k8c2 }
def k8c3 : Code := { maxStack := 4, maxLocals := 3, code := jdk_42_method_80_code, exceptionTable := #[], attributes := #[] }
def k8m3 : Method := { name := "indexOf", desc := "(II)I", sig := { parameters := [.int, .int], returnType := some .int }, accessFlags := 1, code := some k8c3 }
def k8c4 : Code := { maxStack := 1, maxLocals := 1, code := jdk_42_method_152_code, exceptionTable := #[], attributes := #[] }
def k8m4 : Method := { name := "coder", desc := "()B", sig := { parameters := [], returnType := some .byte }, accessFlags := 0, code := some k8c4 }
def k8c5 : Code := { maxStack := 1, maxLocals := 1, code := jdk_42_method_154_code, exceptionTable := #[], attributes := #[] }
def k8m5 : Method := { name := "isLatin1", desc := "()Z", sig := { parameters := [], returnType := some .boolean }, accessFlags := 0, code := some k8c5 }
/-- java/lang/String -/
def k8 : Class := { plain "java/lang/String" (some 0) with
  accessFlags := 49
  interfaces := #[3, 4, 5, 6, 7]
  cf := some (fileOf pool8 10 #[.nestMembers #[1103]] #[{ accessFlags := 1, nameIndex := 5, descriptorIndex := 6, attributes := #[] }, { accessFlags := 1, nameIndex := 507, descriptorIndex := 334, attributes := #[] }, { accessFlags := 1, nameIndex := 635, descriptorIndex := 765, attributes := #[] }, { accessFlags := 1, nameIndex := 635, descriptorIndex := 636, attributes := #[] }, { accessFlags := 0, nameIndex := 17, descriptorIndex := 337, attributes := #[] }, { accessFlags := 0, nameIndex := 494, descriptorIndex := 142, attributes := #[] }] 49 2 #[1106, 1108, 575, 1110, 1112] #[{ accessFlags := 18, nameIndex := 13, descriptorIndex := 14, attributes := #[] }, { accessFlags := 18, nameIndex := 17, descriptorIndex := 18, attributes := #[] }, { accessFlags := 2, nameIndex := 21, descriptorIndex := 22, attributes := #[] }, { accessFlags := 2, nameIndex := 25, descriptorIndex := 26, attributes := #[] }, { accessFlags := 26, nameIndex := 1116, descriptorIndex := 1117, attributes := #[] }, { accessFlags := 24, nameIndex := 40, descriptorIndex := 26, attributes := #[] }, { accessFlags := 26, nameIndex := 1101, descriptorIndex := 1102, attributes := #[] }, { accessFlags := 26, nameIndex := 1121, descriptorIndex := 1122, attributes := #[] }, { accessFlags := 25, nameIndex := 599, descriptorIndex := 600, attributes := #[] }, { accessFlags := 24, nameIndex := 1125, descriptorIndex := 18, attributes := #[] }, { accessFlags := 24, nameIndex := 1127, descriptorIndex := 18, attributes := #[] }])
  fields := #[{ name := "value", type := (.array .byte), accessFlags := 18, slot := 0, constantValue := 0 }, { name := "coder", type := .byte, accessFlags := 18, slot := 1, constantValue := 0 }, { name := "hash", type := .int, accessFlags := 2, slot := 2, constantValue := 0 }, { name := "hashIsZero", type := .boolean, accessFlags := 2, slot := 3, constantValue := 0 }, { name := "serialVersionUID", type := .long, accessFlags := 26, slot := 0, constantValue := 0 }, { name := "COMPACT_STRINGS", type := .boolean, accessFlags := 24, slot := 1, constantValue := 0 }, { name := "serialPersistentFields", type := (.array (.object "java/io/ObjectStreamField")), accessFlags := 26, slot := 2, constantValue := 0 }, { name := "REPL", type := .char, accessFlags := 26, slot := 3, constantValue := 0 }, { name := "CASE_INSENSITIVE_ORDER", type := (.object "java/util/Comparator"), accessFlags := 25, slot := 4, constantValue := 0 }, { name := "LATIN1", type := .byte, accessFlags := 24, slot := 5, constantValue := 0 }, { name := "UTF16", type := .byte, accessFlags := 24, slot := 6, constantValue := 0 }]
  methods := #[k8m0, k8m1, k8m2, k8m3, k8m4, k8m5]
  instanceTypes := #[(.array .byte), .byte, .int, .boolean]
  staticTypes := #[.long, .boolean, (.array (.object "java/io/ObjectStreamField")), .char, (.object "java/util/Comparator"), .byte, .byte]
  resolved := Array.replicate 1451 none
  statics := some 0 }

def pool9 : Array CpInfo := pool [(4, .class_ 6), (1, u "java/lang/Object"), (0, u "<init>"), (0, u "()V"), (5, .class_ 16), (1, u "java/lang/StringLatin1"), (21, .methodref 39 40), (0, .class_ 41), (0, .nameAndType 42 43), (0, u "java/lang/Math"), (0, u "min"), (0, u "(II)I"), (44, .methodref 14 89), (0, .nameAndType 90 91), (0, u "canEncode"), (0, u "(I)Z"), (0, .methodref 39 93), (0, .nameAndType 94 43), (0, u "max"), (0, .methodref 14 96), (0, .nameAndType 97 98), (0, u "indexOfChar"), (0, u "([BIII)I"), (2, u "indexOf"), (19, u "$assertionsDisabled"), (0, u "Z"), (98, .class_ 223), (1, u "java/lang/StringLatin1$LinesSpliterator"), (166, .class_ 391), (0, u "java/lang/StringLatin1$CharsSpliterator")] 3

def k9m0 : Method := { name := "<init>", desc := "()V", sig := { parameters := [], returnType := none }, accessFlags := 0, code := none }
def k9c1 : Code := { maxStack := 2, maxLocals := 1, code := jdk_43_method_4_code, exceptionTable := #[], attributes := #[] }
def k9m1 : Method := { name := "canEncode", desc := "(I)Z", sig := { parameters := [.int], returnType := some .boolean }, accessFlags := 9, code := some k9c1 }
def k9c2 : Code := { maxStack := 4, maxLocals := 4, code := jdk_43_method_22_code, exceptionTable := #[], attributes := #[] }
def k9m2 : Method := { name := "indexOf", desc := "([BIII)I", sig := { parameters := [(.array .byte), .int, .int, .int], returnType := some .int }, accessFlags := 9, code := some k9c2 }
def k9c3 : Code := { maxStack := 2, maxLocals := 6, code := jdk_43_method_23_code, exceptionTable := #[], attributes := #[] }
def k9m3 : Method := { name := "indexOfChar", desc := "([BIII)I", sig := { parameters := [(.array .byte), .int, .int, .int], returnType := some .int }, accessFlags := 10, code := some k9c3 }
/-- java/lang/StringLatin1 -/
def k9 : Class := { plain "java/lang/StringLatin1" (some 0) with
  accessFlags := 48
  interfaces := #[]
  cf := some (fileOf pool9 14 #[.nestMembers #[390, 221]] #[{ accessFlags := 0, nameIndex := 7, descriptorIndex := 8, attributes := #[] }, { accessFlags := 9, nameIndex := 90, descriptorIndex := 91, attributes := #[] }, { accessFlags := 9, nameIndex := 101, descriptorIndex := 98, attributes := #[] }, { accessFlags := 10, nameIndex := 97, descriptorIndex := 98, attributes := #[] }] 48 4 #[] #[{ accessFlags := 4120, nameIndex := 121, descriptorIndex := 122, attributes := #[] }])
  fields := #[{ name := "$assertionsDisabled", type := .boolean, accessFlags := 4120, slot := 0, constantValue := 0 }]
  methods := #[k9m0, k9m1, k9m2, k9m3]
  instanceTypes := #[]
  staticTypes := #[.boolean]
  resolved := Array.replicate 395 none
  statics := none }

def pool10 : Array CpInfo := pool [(1, .class_ 2), (0, u "java/lang/Math"), (1, .class_ 6), (1, u "java/lang/Object"), (0, u "<init>"), (0, u "()V"), (89, .class_ 100), (1, u "java/lang/Math$RandomNumberGeneratorHolder"), (71, u "negativeZeroFloatBits"), (0, u "J"), (2, u "negativeZeroDoubleBits"), (21, u "max"), (2, u "min"), (43, u "$assertionsDisabled"), (0, u "Z"), (88, u "(II)I"), (2, u "twoToTheDoubleScaleDown"), (0, u "D"), (4, u "twoToTheDoubleScaleUp"), (9, u "E"), (3, u "PI"), (2, u "TAU"), (2, u "DEGREES_TO_RADIANS"), (0, u "RADIANS_TO_DEGREES")] 94

def k10m0 : Method := { name := "<init>", desc := "()V", sig := { parameters := [], returnType := none }, accessFlags := 2, code := none }
def k10c1 : Code := { maxStack := 2, maxLocals := 2, code := jdk_29_method_65_code, exceptionTable := #[], attributes := #[] }
def k10m1 : Method := { name := "max", desc := "(II)I", sig := { parameters := [.int, .int], returnType := some .int }, accessFlags := 9, code := some k10c1 }
def k10c2 : Code := { maxStack := 2, maxLocals := 2, code := jdk_29_method_69_code, exceptionTable := #[], attributes := #[] }
def k10m2 : Method := { name := "min", desc := "(II)I", sig := { parameters := [.int, .int], returnType := some .int }, accessFlags := 9, code := some k10c2 }
/-- java/lang/Math -/
def k10 : Class := { plain "java/lang/Math" (some 0) with
  accessFlags := 49
  interfaces := #[]
  cf := some (fileOf pool10 1 #[.nestMembers #[98]] #[{ accessFlags := 2, nameIndex := 7, descriptorIndex := 8, attributes := #[] }, { accessFlags := 9, nameIndex := 198, descriptorIndex := 335, attributes := #[] }, { accessFlags := 9, nameIndex := 201, descriptorIndex := 335, attributes := #[] }] 49 4 #[] #[{ accessFlags := 25, nameIndex := 354, descriptorIndex := 339, attributes := #[] }, { accessFlags := 25, nameIndex := 358, descriptorIndex := 339, attributes := #[] }, { accessFlags := 25, nameIndex := 361, descriptorIndex := 339, attributes := #[] }, { accessFlags := 26, nameIndex := 364, descriptorIndex := 339, attributes := #[] }, { accessFlags := 26, nameIndex := 365, descriptorIndex := 339, attributes := #[] }, { accessFlags := 26, nameIndex := 172, descriptorIndex := 173, attributes := #[] }, { accessFlags := 26, nameIndex := 176, descriptorIndex := 173, attributes := #[] }, { accessFlags := 8, nameIndex := 344, descriptorIndex := 339, attributes := #[] }, { accessFlags := 8, nameIndex := 338, descriptorIndex := 339, attributes := #[] }, { accessFlags := 4120, nameIndex := 245, descriptorIndex := 246, attributes := #[] }])
  fields := #[{ name := "E", type := .double, accessFlags := 25, slot := 0, constantValue := 0 }, { name := "PI", type := .double, accessFlags := 25, slot := 1, constantValue := 0 }, { name := "TAU", type := .double, accessFlags := 25, slot := 2, constantValue := 0 }, { name := "DEGREES_TO_RADIANS", type := .double, accessFlags := 26, slot := 3, constantValue := 0 }, { name := "RADIANS_TO_DEGREES", type := .double, accessFlags := 26, slot := 4, constantValue := 0 }, { name := "negativeZeroFloatBits", type := .long, accessFlags := 26, slot := 5, constantValue := 0 }, { name := "negativeZeroDoubleBits", type := .long, accessFlags := 26, slot := 6, constantValue := 0 }, { name := "twoToTheDoubleScaleUp", type := .double, accessFlags := 8, slot := 7, constantValue := 0 }, { name := "twoToTheDoubleScaleDown", type := .double, accessFlags := 8, slot := 8, constantValue := 0 }, { name := "$assertionsDisabled", type := .boolean, accessFlags := 4120, slot := 9, constantValue := 0 }]
  methods := #[k10m0, k10m1, k10m2]
  instanceTypes := #[]
  staticTypes := #[.double, .double, .double, .double, .double, .long, .long, .double, .double, .boolean]
  resolved := Array.replicate 460 none
  statics := none }

def pool11 : Array CpInfo := pool [(2, .class_ 4), (1, u "java/lang/Object"), (0, u "<init>"), (0, u "()V"), (17, .class_ 26), (1, u "jdk/internal/util/Preconditions"), (28, .class_ 56), (0, u "jdk/internal/util/Preconditions$4"), (57, .class_ 115), (0, u "jdk/internal/util/Preconditions$1"), (7, u "SIOOBE_FORMATTER"), (0, u "Ljava/util/function/BiFunction;"), (0, .class_ 126), (0, u "jdk/internal/util/Preconditions$2"), (3, u "AIOOBE_FORMATTER"), (0, .class_ 132), (0, u "jdk/internal/util/Preconditions$3"), (3, u "IOOBE_FORMATTER")] 57

def k11m0 : Method := { name := "<init>", desc := "()V", sig := { parameters := [], returnType := none }, accessFlags := 1, code := none }
/-- jdk/internal/util/Preconditions -/
def k11 : Class := { plain "jdk/internal/util/Preconditions" (some 0) with
  accessFlags := 33
  interfaces := #[]
  cf := some (fileOf pool11 24 #[.nestMembers #[55, 131, 125, 114]] #[{ accessFlags := 1, nameIndex := 5, descriptorIndex := 6, attributes := #[] }] 33 2 #[] #[{ accessFlags := 25, nameIndex := 123, descriptorIndex := 124, attributes := #[] }, { accessFlags := 25, nameIndex := 130, descriptorIndex := 124, attributes := #[] }, { accessFlags := 25, nameIndex := 136, descriptorIndex := 124, attributes := #[] }])
  fields := #[{ name := "SIOOBE_FORMATTER", type := (.object "java/util/function/BiFunction"), accessFlags := 25, slot := 0, constantValue := 0 }, { name := "AIOOBE_FORMATTER", type := (.object "java/util/function/BiFunction"), accessFlags := 25, slot := 1, constantValue := 0 }, { name := "IOOBE_FORMATTER", type := (.object "java/util/function/BiFunction"), accessFlags := 25, slot := 2, constantValue := 0 }]
  methods := #[k11m0]
  instanceTypes := #[]
  staticTypes := #[(.object "java/util/function/BiFunction"), (.object "java/util/function/BiFunction"), (.object "java/util/function/BiFunction")]
  resolved := Array.replicate 194 none
  statics := some 1 }

def pool12 : Array CpInfo := pool [(9, u "<init>"), (6, .class_ 18), (1, u "java/lang/Object"), (0, u "()V"), (1, .class_ 23), (1, u "jdk/internal/util/ArraysSupport"), (0, u "LOG2_ARRAY_LONG_INDEX_SCALE"), (0, u "I"), (2, u "U"), (0, u "Ljdk/internal/misc/Unsafe;"), (8, u "BIG_ENDIAN"), (0, u "Z"), (8, u "LOG2_BYTE_BIT_SIZE"), (4, u "LOG2_ARRAY_INT_INDEX_SCALE"), (54, u "JLA"), (0, u "Ljdk/internal/access/JavaLangAccess;"), (11, u "LOG2_ARRAY_BOOLEAN_INDEX_SCALE"), (9, u "LOG2_ARRAY_BYTE_INDEX_SCALE"), (5, u "LOG2_ARRAY_CHAR_INDEX_SCALE"), (5, u "LOG2_ARRAY_SHORT_INDEX_SCALE"), (18, u "LOG2_ARRAY_FLOAT_INDEX_SCALE"), (24, u "LOG2_ARRAY_DOUBLE_INDEX_SCALE"), (89, u "T_BOOLEAN"), (2, u "T_CHAR"), (1, u "T_FLOAT"), (1, u "T_DOUBLE"), (1, u "T_BYTE"), (1, u "T_SHORT"), (1, u "T_INT"), (1, u "T_LONG"), (1, u "SOFT_MAX_ARRAY_LENGTH")] 83

def k12m0 : Method := { name := "<init>", desc := "()V", sig := { parameters := [], returnType := none }, accessFlags := 2, code := none }
/-- jdk/internal/util/ArraysSupport -/
def k12 : Class := { plain "jdk/internal/util/ArraysSupport" (some 0) with
  accessFlags := 33
  interfaces := #[]
  cf := some (fileOf pool12 21 #[] #[{ accessFlags := 2, nameIndex := 9, descriptorIndex := 19, attributes := #[] }] 33 16 #[] #[{ accessFlags := 24, nameIndex := 28, descriptorIndex := 29, attributes := #[] }, { accessFlags := 26, nameIndex := 38, descriptorIndex := 39, attributes := #[] }, { accessFlags := 25, nameIndex := 121, descriptorIndex := 25, attributes := #[] }, { accessFlags := 25, nameIndex := 131, descriptorIndex := 25, attributes := #[] }, { accessFlags := 25, nameIndex := 137, descriptorIndex := 25, attributes := #[] }, { accessFlags := 25, nameIndex := 143, descriptorIndex := 25, attributes := #[] }, { accessFlags := 25, nameIndex := 53, descriptorIndex := 25, attributes := #[] }, { accessFlags := 25, nameIndex := 24, descriptorIndex := 25, attributes := #[] }, { accessFlags := 25, nameIndex := 162, descriptorIndex := 25, attributes := #[] }, { accessFlags := 25, nameIndex := 187, descriptorIndex := 25, attributes := #[] }, { accessFlags := 26, nameIndex := 48, descriptorIndex := 25, attributes := #[] }, { accessFlags := 25, nameIndex := 277, descriptorIndex := 25, attributes := #[] }, { accessFlags := 25, nameIndex := 280, descriptorIndex := 25, attributes := #[] }, { accessFlags := 25, nameIndex := 282, descriptorIndex := 25, attributes := #[] }, { accessFlags := 25, nameIndex := 284, descriptorIndex := 25, attributes := #[] }, { accessFlags := 25, nameIndex := 286, descriptorIndex := 25, attributes := #[] }, { accessFlags := 25, nameIndex := 288, descriptorIndex := 25, attributes := #[] }, { accessFlags := 25, nameIndex := 290, descriptorIndex := 25, attributes := #[] }, { accessFlags := 25, nameIndex := 292, descriptorIndex := 25, attributes := #[] }, { accessFlags := 26, nameIndex := 108, descriptorIndex := 109, attributes := #[] }, { accessFlags := 25, nameIndex := 294, descriptorIndex := 25, attributes := #[] }])
  fields := #[{ name := "U", type := (.object "jdk/internal/misc/Unsafe"), accessFlags := 24, slot := 0, constantValue := 0 }, { name := "BIG_ENDIAN", type := .boolean, accessFlags := 26, slot := 1, constantValue := 0 }, { name := "LOG2_ARRAY_BOOLEAN_INDEX_SCALE", type := .int, accessFlags := 25, slot := 2, constantValue := 0 }, { name := "LOG2_ARRAY_BYTE_INDEX_SCALE", type := .int, accessFlags := 25, slot := 3, constantValue := 0 }, { name := "LOG2_ARRAY_CHAR_INDEX_SCALE", type := .int, accessFlags := 25, slot := 4, constantValue := 0 }, { name := "LOG2_ARRAY_SHORT_INDEX_SCALE", type := .int, accessFlags := 25, slot := 5, constantValue := 0 }, { name := "LOG2_ARRAY_INT_INDEX_SCALE", type := .int, accessFlags := 25, slot := 6, constantValue := 0 }, { name := "LOG2_ARRAY_LONG_INDEX_SCALE", type := .int, accessFlags := 25, slot := 7, constantValue := 0 }, { name := "LOG2_ARRAY_FLOAT_INDEX_SCALE", type := .int, accessFlags := 25, slot := 8, constantValue := 0 }, { name := "LOG2_ARRAY_DOUBLE_INDEX_SCALE", type := .int, accessFlags := 25, slot := 9, constantValue := 0 }, { name := "LOG2_BYTE_BIT_SIZE", type := .int, accessFlags := 26, slot := 10, constantValue := 0 }, { name := "T_BOOLEAN", type := .int, accessFlags := 25, slot := 11, constantValue := 0 }, { name := "T_CHAR", type := .int, accessFlags := 25, slot := 12, constantValue := 0 }, { name := "T_FLOAT", type := .int, accessFlags := 25, slot := 13, constantValue := 0 }, { name := "T_DOUBLE", type := .int, accessFlags := 25, slot := 14, constantValue := 0 }, { name := "T_BYTE", type := .int, accessFlags := 25, slot := 15, constantValue := 0 }, { name := "T_SHORT", type := .int, accessFlags := 25, slot := 16, constantValue := 0 }, { name := "T_INT", type := .int, accessFlags := 25, slot := 17, constantValue := 0 }, { name := "T_LONG", type := .int, accessFlags := 25, slot := 18, constantValue := 0 }, { name := "JLA", type := (.object "jdk/internal/access/JavaLangAccess"), accessFlags := 26, slot := 19, constantValue := 0 }, { name := "SOFT_MAX_ARRAY_LENGTH", type := .int, accessFlags := 25, slot := 20, constantValue := 0 }]
  methods := #[k12m0]
  instanceTypes := #[]
  staticTypes := #[(.object "jdk/internal/misc/Unsafe"), .boolean, .int, .int, .int, .int, .int, .int, .int, .int, .int, .int, .int, .int, .int, .int, .int, .int, .int, (.object "jdk/internal/access/JavaLangAccess"), .int]
  resolved := Array.replicate 378 none
  statics := none }

def pool13 : Array CpInfo := pool [(1, u "java/lang/Cloneable"), (0, .class_ 1), (0, u "java/lang/Object"), (0, .class_ 3)] 3

/-- java/lang/Cloneable -/
def k13 : Class := { plain "java/lang/Cloneable" (some 0) with
  accessFlags := 1537
  interfaces := #[]
  cf := some (fileOf pool13 2 #[] #[] 1537 4 #[] #[])
  fields := #[]
  methods := #[]
  instanceTypes := #[]
  staticTypes := #[]
  resolved := Array.replicate 8 none
  statics := none }

/-- the primitive byte -/
def k14 : Class := { plain "byte" none with kind := .primitive 'B', accessFlags := 0x411 }
/-- [B -/
def k15 : Class := { plain "[B" (some 0) with kind := .array 14 .byte, interfaces := #[13, 3], accessFlags := 1041 }

/-- the primitive int -/
def k16 : Class := { plain "int" none with kind := .primitive 'I', accessFlags := 0x411 }
/-- [I -/
def k17 : Class := { plain "[I" (some 0) with kind := .array 16 .int, interfaces := #[13, 3], accessFlags := 1041 }

def heap : Heap := #[{ cls := 8, slots := #[.long 0, .int 1, .null, .int 0, .null, .int 0, .int 0], vm := .statics 8 },
  { cls := 11, slots := #[.null, .null, .null], vm := .statics 11 }]
def classes : Array Class := #[k0, k1, k2, k3, k4, k5, k6, k7, k8, k9, k10, k11, k12, k13, k14, k15, k16, k17]
def interned : List (Array UInt16 × Addr) := []
def slotsUsed : Nat := 10
def theMethod : MethodId := ⟨1, 2⟩
def args0 : Array Value := #[.int 5]
def aboutOver (below : List Frame) : State where
  vm := { classes := classes, interned := interned.toArray }
  heap := heap
  slotsUsed := slotsUsed
  threads := #[{ frames := .invoking theMethod args0 :: below }]
def below0 : List Frame := [.native { method := ⟨0, 0⟩, args := #[] }]
def about1 : State := aboutOver below0
def p0 : Program := .bare "" "" ""
def e0 : Env := launch0.env 0 0 0
theorem w_frames : about1.frames = Frame.invoking theMethod args0 :: below0 := rfl
set_option maxRecDepth 65536 in
theorem w_args : argsFit about1.vm theMethod args0 = true := by decide +kernel
set_option maxRecDepth 65536 in
theorem w_heap : heapFits about1 = true := by decide +kernel
set_option maxRecDepth 65536 in
theorem w_runnable : about1.curStatus? = some .runnable := by decide +kernel
set_option maxRecDepth 65536 in
theorem w_alone : about1.alone = true := by decide +kernel
set_option maxRecDepth 65536 in
theorem w_named : about1.methodNamed? x = some theMethod := by decide +kernel
set_option maxRecDepth 65536 in
theorem w_hears : about1.hears theMethod below0 = true := by decide +kernel
set_option maxRecDepth 65536 in
theorem w_ripe : about1.ripe theMethod args0 below0 = true := by decide +kernel
theorem w_running : about1.status = .running := rfl
set_option maxRecDepth 65536 in
theorem w_room : about1.hasRoom e0.platform room_1 = true :=
  launch0.hasRoom_least _ room_1 (by decide +kernel) (by decide +kernel) (by decide +kernel) (by decide +kernel) (by decide +kernel) (by decide +kernel)
theorem allAtoms_all (ts : List Jvm.Cond) (a : Array Jvm.Value) (st : Jvm.State) : (allAtoms ts).before a st = ts.all (fun c => c.before a st) := by
  induction ts with
  | nil => rfl
  | cons c t ih =>
    show (Jvm.Cond.and c (allAtoms t)).before a st = _
    rw [Jvm.Cond.before_and, ih, List.all_cons]
def words1 : List Jvm.Cond := Jvm.Cond.code x code maxLocals ret :: tables_1
/-- a 'code' word, met by the world's own term for the bytes: nothing is compared byte by byte -/
theorem code_word {y : MethodName} {bytes : ByteArray} {mx : Nat} {rt : Option FieldType} {a : Array Value} {s : State} {m : MethodId} {meth : Method} {c : Code} (h1 : s.methodNamed? y = some m) (h2 : s.vm.method? m = some meth) (h3 : meth.code = some c) (h4 : c.code = bytes)
    (h5 : (c.maxLocals == mx && c.exceptionTable.isEmpty && decide (c.maxStack ≤ mostOperands) && decide (meth.sig.returnType = rt) && !meth.locks && decide (parseMethodDescriptor y.desc = some meth.sig)) = true) : (Jvm.Cond.code y bytes mx rt).before a s = true := by
  simp only [Bool.and_eq_true, beq_iff_eq, Bool.not_eq_true', decide_eq_true_eq] at h5
  obtain ⟨⟨⟨⟨⟨g1, g2⟩, g3⟩, g4⟩, g5⟩, g6⟩ := h5
  simp [Cond.before, Cond.holds, Cond.value, h1, h2, h3, h4, g1, g2, g3, g4, g5, g6]
def isCode : Jvm.Cond → Bool
  | .code _ _ _ _ => true
  | _ => false
theorem all_split {L : List Jvm.Cond} {P : Jvm.Cond → Bool} (h1 : L.all (fun c => isCode c || P c) = true) (h2 : ∀ c ∈ L.filter isCode, P c = true) : L.all P = true := by
  refine List.all_eq_true.mpr fun c hc => ?_
  have h := List.all_eq_true.mp h1 c hc
  rcases Bool.eq_false_or_eq_true (isCode c) with hi | hi
  · exact h2 c (List.mem_filter.mpr ⟨hc, hi⟩)
  · simpa [hi] using h
set_option maxRecDepth 65536 in
theorem w_c0 : (Jvm.Cond.code x code maxLocals ret).before args0 about1 = true := code_word (m := ⟨1, 2⟩) (meth := k1m2) (c := k1c2) (by decide +kernel) rfl rfl rfl (by decide +kernel)
set_option maxRecDepth 65536 in
theorem w_c1 : (Jvm.Cond.code ({ cls := "com/example/foldkey/foldkey/encoding/StructuredFields", name := "isTokenCharacter", desc := "(C)Z" } : Jvm.MethodName) prog_10_method_30_code (1 : Nat) (Option.some Jvm.ClassFile.FieldType.boolean)).before args0 about1 = true := code_word (m := ⟨2, 3⟩) (meth := k2m3) (c := k2c3) (by decide +kernel) rfl rfl rfl (by decide +kernel)
set_option maxRecDepth 65536 in
theorem w_c2 : (Jvm.Cond.code ({ cls := "com/example/foldkey/foldkey/encoding/StructuredFields", name := "isLetter", desc := "(C)Z" } : Jvm.MethodName) prog_10_method_27_code (1 : Nat) (Option.some Jvm.ClassFile.FieldType.boolean)).before args0 about1 = true := code_word (m := ⟨2, 1⟩) (meth := k2m1) (c := k2c1) (by decide +kernel) rfl rfl rfl (by decide +kernel)
set_option maxRecDepth 65536 in
theorem w_c3 : (Jvm.Cond.code ({ cls := "com/example/foldkey/foldkey/encoding/StructuredFields", name := "isLowercaseLetter", desc := "(C)Z" } : Jvm.MethodName) prog_10_method_26_code (1 : Nat) (Option.some Jvm.ClassFile.FieldType.boolean)).before args0 about1 = true := code_word (m := ⟨2, 0⟩) (meth := k2m0) (c := k2c0) (by decide +kernel) rfl rfl rfl (by decide +kernel)
set_option maxRecDepth 65536 in
theorem w_c4 : (Jvm.Cond.code ({ cls := "com/example/foldkey/foldkey/encoding/StructuredFields", name := "isDigit", desc := "(C)Z" } : Jvm.MethodName) prog_10_method_28_code (1 : Nat) (Option.some Jvm.ClassFile.FieldType.boolean)).before args0 about1 = true := code_word (m := ⟨2, 2⟩) (meth := k2m2) (c := k2c2) (by decide +kernel) rfl rfl rfl (by decide +kernel)
set_option maxRecDepth 65536 in
theorem w_c5 : (Jvm.Cond.code ({ cls := "java/lang/String", name := "indexOf", desc := "(I)I" } : Jvm.MethodName) jdk_42_method_79_code (2 : Nat) (Option.some Jvm.ClassFile.FieldType.int)).before args0 about1 = true := code_word (m := ⟨8, 2⟩) (meth := k8m2) (c := k8c2) (by decide +kernel) rfl rfl rfl (by decide +kernel)
set_option maxRecDepth 65536 in
theorem w_c6 : (Jvm.Cond.code ({ cls := "java/lang/String", name := "indexOf", desc := "(II)I" } : Jvm.MethodName) jdk_42_method_80_code (3 : Nat) (Option.some Jvm.ClassFile.FieldType.int)).before args0 about1 = true := code_word (m := ⟨8, 3⟩) (meth := k8m3) (c := k8c3) (by decide +kernel) rfl rfl rfl (by decide +kernel)
set_option maxRecDepth 65536 in
theorem w_c7 : (Jvm.Cond.code ({ cls := "java/lang/String", name := "isLatin1", desc := "()Z" } : Jvm.MethodName) jdk_42_method_154_code (1 : Nat) (Option.some Jvm.ClassFile.FieldType.boolean)).before args0 about1 = true := code_word (m := ⟨8, 5⟩) (meth := k8m5) (c := k8c5) (by decide +kernel) rfl rfl rfl (by decide +kernel)
set_option maxRecDepth 65536 in
theorem w_c8 : (Jvm.Cond.code ({ cls := "java/lang/String", name := "length", desc := "()I" } : Jvm.MethodName) jdk_42_method_54_code (1 : Nat) (Option.some Jvm.ClassFile.FieldType.int)).before args0 about1 = true := code_word (m := ⟨8, 1⟩) (meth := k8m1) (c := k8c1) (by decide +kernel) rfl rfl rfl (by decide +kernel)
set_option maxRecDepth 65536 in
theorem w_c9 : (Jvm.Cond.code ({ cls := "java/lang/String", name := "coder", desc := "()B" } : Jvm.MethodName) jdk_42_method_152_code (1 : Nat) (Option.some Jvm.ClassFile.FieldType.byte)).before args0 about1 = true := code_word (m := ⟨8, 4⟩) (meth := k8m4) (c := k8c4) (by decide +kernel) rfl rfl rfl (by decide +kernel)
set_option maxRecDepth 65536 in
theorem w_c10 : (Jvm.Cond.code ({ cls := "java/lang/StringLatin1", name := "indexOf", desc := "([BIII)I" } : Jvm.MethodName) jdk_43_method_22_code (4 : Nat) (Option.some Jvm.ClassFile.FieldType.int)).before args0 about1 = true := code_word (m := ⟨9, 2⟩) (meth := k9m2) (c := k9c2) (by decide +kernel) rfl rfl rfl (by decide +kernel)
set_option maxRecDepth 65536 in
theorem w_c11 : (Jvm.Cond.code ({ cls := "java/lang/StringLatin1", name := "canEncode", desc := "(I)Z" } : Jvm.MethodName) jdk_43_method_4_code (1 : Nat) (Option.some Jvm.ClassFile.FieldType.boolean)).before args0 about1 = true := code_word (m := ⟨9, 1⟩) (meth := k9m1) (c := k9c1) (by decide +kernel) rfl rfl rfl (by decide +kernel)
set_option maxRecDepth 65536 in
theorem w_c12 : (Jvm.Cond.code ({ cls := "java/lang/Math", name := "max", desc := "(II)I" } : Jvm.MethodName) jdk_29_method_65_code (2 : Nat) (Option.some Jvm.ClassFile.FieldType.int)).before args0 about1 = true := code_word (m := ⟨10, 1⟩) (meth := k10m1) (c := k10c1) (by decide +kernel) rfl rfl rfl (by decide +kernel)
set_option maxRecDepth 65536 in
theorem w_c13 : (Jvm.Cond.code ({ cls := "java/lang/Math", name := "min", desc := "(II)I" } : Jvm.MethodName) jdk_29_method_69_code (2 : Nat) (Option.some Jvm.ClassFile.FieldType.int)).before args0 about1 = true := code_word (m := ⟨10, 2⟩) (meth := k10m2) (c := k10c2) (by decide +kernel) rfl rfl rfl (by decide +kernel)
set_option maxRecDepth 65536 in
theorem w_c14 : (Jvm.Cond.code ({ cls := "java/lang/StringLatin1", name := "indexOfChar", desc := "([BIII)I" } : Jvm.MethodName) jdk_43_method_23_code (6 : Nat) (Option.some Jvm.ClassFile.FieldType.int)).before args0 about1 = true := code_word (m := ⟨9, 3⟩) (meth := k9m3) (c := k9c3) (by decide +kernel) rfl rfl rfl (by decide +kernel)
set_option maxRecDepth 65536 in
theorem w_c15 : (Jvm.Cond.code ({ cls := "com/example/foldkey/foldkey/encoding/StructuredFieldsIsTokenCharacterPinLaw", name := "isDelimiter", desc := "(C)Z" } : Jvm.MethodName) method_2_code (1 : Nat) (Option.some Jvm.ClassFile.FieldType.boolean)).before args0 about1 = true := code_word (m := ⟨1, 1⟩) (meth := k1m1) (c := k1c1) (by decide +kernel) rfl rfl rfl (by decide +kernel)
def codes1 : List Jvm.Cond := [Jvm.Cond.code x code maxLocals ret, Jvm.Cond.code ({ cls := "com/example/foldkey/foldkey/encoding/StructuredFields", name := "isTokenCharacter", desc := "(C)Z" } : Jvm.MethodName) prog_10_method_30_code (1 : Nat) (Option.some Jvm.ClassFile.FieldType.boolean), Jvm.Cond.code ({ cls := "com/example/foldkey/foldkey/encoding/StructuredFields", name := "isLetter", desc := "(C)Z" } : Jvm.MethodName) prog_10_method_27_code (1 : Nat) (Option.some Jvm.ClassFile.FieldType.boolean), Jvm.Cond.code ({ cls := "com/example/foldkey/foldkey/encoding/StructuredFields", name := "isLowercaseLetter", desc := "(C)Z" } : Jvm.MethodName) prog_10_method_26_code (1 : Nat) (Option.some Jvm.ClassFile.FieldType.boolean), Jvm.Cond.code ({ cls := "com/example/foldkey/foldkey/encoding/StructuredFields", name := "isDigit", desc := "(C)Z" } : Jvm.MethodName) prog_10_method_28_code (1 : Nat) (Option.some Jvm.ClassFile.FieldType.boolean), Jvm.Cond.code ({ cls := "java/lang/String", name := "indexOf", desc := "(I)I" } : Jvm.MethodName) jdk_42_method_79_code (2 : Nat) (Option.some Jvm.ClassFile.FieldType.int), Jvm.Cond.code ({ cls := "java/lang/String", name := "indexOf", desc := "(II)I" } : Jvm.MethodName) jdk_42_method_80_code (3 : Nat) (Option.some Jvm.ClassFile.FieldType.int), Jvm.Cond.code ({ cls := "java/lang/String", name := "isLatin1", desc := "()Z" } : Jvm.MethodName) jdk_42_method_154_code (1 : Nat) (Option.some Jvm.ClassFile.FieldType.boolean), Jvm.Cond.code ({ cls := "java/lang/String", name := "length", desc := "()I" } : Jvm.MethodName) jdk_42_method_54_code (1 : Nat) (Option.some Jvm.ClassFile.FieldType.int), Jvm.Cond.code ({ cls := "java/lang/String", name := "coder", desc := "()B" } : Jvm.MethodName) jdk_42_method_152_code (1 : Nat) (Option.some Jvm.ClassFile.FieldType.byte), Jvm.Cond.code ({ cls := "java/lang/StringLatin1", name := "indexOf", desc := "([BIII)I" } : Jvm.MethodName) jdk_43_method_22_code (4 : Nat) (Option.some Jvm.ClassFile.FieldType.int), Jvm.Cond.code ({ cls := "java/lang/StringLatin1", name := "canEncode", desc := "(I)Z" } : Jvm.MethodName) jdk_43_method_4_code (1 : Nat) (Option.some Jvm.ClassFile.FieldType.boolean), Jvm.Cond.code ({ cls := "java/lang/Math", name := "max", desc := "(II)I" } : Jvm.MethodName) jdk_29_method_65_code (2 : Nat) (Option.some Jvm.ClassFile.FieldType.int), Jvm.Cond.code ({ cls := "java/lang/Math", name := "min", desc := "(II)I" } : Jvm.MethodName) jdk_29_method_69_code (2 : Nat) (Option.some Jvm.ClassFile.FieldType.int), Jvm.Cond.code ({ cls := "java/lang/StringLatin1", name := "indexOfChar", desc := "([BIII)I" } : Jvm.MethodName) jdk_43_method_23_code (6 : Nat) (Option.some Jvm.ClassFile.FieldType.int), Jvm.Cond.code ({ cls := "com/example/foldkey/foldkey/encoding/StructuredFieldsIsTokenCharacterPinLaw", name := "isDelimiter", desc := "(C)Z" } : Jvm.MethodName) method_2_code (1 : Nat) (Option.some Jvm.ClassFile.FieldType.boolean)]
set_option maxRecDepth 65536 in
theorem codes_eq : words1.filter isCode = codes1 := rfl
theorem w_codes : ∀ c ∈ words1.filter isCode, c.before args0 about1 = true := by
  rw [codes_eq]
  intro c hc
  simp only [codes1, List.mem_cons, List.not_mem_nil, or_false] at hc
  rcases hc with rfl | rfl | rfl | rfl | rfl | rfl | rfl | rfl | rfl | rfl | rfl | rfl | rfl | rfl | rfl | rfl
  · exact w_c0
  · exact w_c1
  · exact w_c2
  · exact w_c3
  · exact w_c4
  · exact w_c5
  · exact w_c6
  · exact w_c7
  · exact w_c8
  · exact w_c9
  · exact w_c10
  · exact w_c11
  · exact w_c12
  · exact w_c13
  · exact w_c14
  · exact w_c15
set_option maxRecDepth 65536 in
theorem w_t1 : (words1.take 24).all (fun c => isCode c || c.before args0 about1) = true := by decide +kernel
set_option maxRecDepth 65536 in
theorem w_t2 : ((words1.drop 24).take 24).all (fun c => isCode c || c.before args0 about1) = true := by decide +kernel
set_option maxRecDepth 65536 in
theorem w_t3 : ((words1.drop 24).drop 24).all (fun c => isCode c || c.before args0 about1) = true := by decide +kernel
theorem w_tables : (allAtoms (Jvm.Cond.code x code maxLocals ret :: tables_1)).before args0 about1 = true := by
  rw [allAtoms_all]
  show words1.all (fun c => c.before args0 about1) = true
  refine all_split ?_ w_codes
  rw [← List.take_append_drop 24 words1, List.all_append, w_t1, ← List.take_append_drop 24 (words1.drop 24), List.all_append, w_t2, w_t3]
  rfl
set_option maxRecDepth 65536 in
theorem w_rest : rest_1_c.before args0 about1 = true := by decide +kernel
set_option maxRecDepth 65536 in
theorem w_case : (Jvm.Cond.and given_1 narrow_1).before args0 about1 = true := by decide +kernel
set_option maxRecDepth 65536 in
theorem w_consts : constsHeld consts_1 about1 := Jvm.Lit.constsHeldB_iff.mp (by decide +kernel)
theorem w_applies : (headSpec (Jvm.Cond.code x code maxLocals ret :: tables_1) room_1).applies x e0.platform about1 = true :=
  (Spec.applies_iff w_frames).mpr ⟨w_running, w_runnable, w_alone, w_named, w_hears, w_ripe, w_room, w_tables⟩
theorem atStart : AtStart classFile x code maxLocals ret World_1 tables_1 room_1 Calls_1 rest_1 Pre_1 launch0 p0 e0 about1 theMethod args0 below0 :=
  ⟨lists_1, trivial, launch0.admits_env _ _ _, launch0.least_env, fairChoices_fair.cas, fairChoices_fair.clock, w_frames, w_args, w_heap, w_applies, ⟨w_consts, trivial⟩, w_rest, w_case⟩
end start1
theorem witness_1 : WitnessClaimed_1 := ⟨start1.p0, start1.e0, start1.about1, start1.theMethod, start1.args0, start1.below0, start1.atStart⟩
end Jvm.Pilot.@@N@@
