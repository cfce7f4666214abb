import JvmDerived
import JvmDerived.Pilot.@@N@@Statement
import JvmDerived.Pilot.@@N@@Code
set_option linter.unusedVariables false
set_option linter.unusedSimpArgs false
namespace Jvm.RoadKit
open Sem ClassFile Op Lib Jvm.Stand Jvm.Free Jvm.LawKit
/-! the goal of a walk, seen from where it stands -/
def own_Go (p : Program) (e : Env) (below : List Frame) (PO : Outcome → State → Prop) (U : State) : Prop :=
  ∃ s₂ o, Steps p.tables e below U s₂ ∧ s₂.status = .running ∧ Ended s₂ below o ∧ PO o s₂
def own_PO (s : State) (Q : Option Value → Heap → List Loc → Prop) (C N : Nat) : Outcome → State → Prop :=
  fun o U' => ∃ v L, o = .returned v ∧ Q v U'.heap L ∧ FrameEnd s o U' L C N
theorem own_back {p : Program} {e : Env} {below : List Frame} {PO : Outcome → State → Prop} {U V : State} (h : own_Go p e below PO V)
    (st : ∀ t, Steps p.tables e below V t → Steps p.tables e below U t) : own_Go p e below PO U := by
  obtain ⟨t, o, h1, h2⟩ := h
  exact ⟨t, o, st t h1, h2⟩
theorem own_gen {A : Type} (x : A) (P : A → Prop) (h : ∀ c, c = x → P c) : P x := h x rfl
section New
variable {p : Program} {l : Launch} {e : Env} {R : Room} {s : State} {m : MethodId} {args : Array Value} {below : List Frame} {meth : Method} {c : Code} {T : State} {locs : List Loc} {cells slots : Nat} {h : Heap}
  {Q : Option Value → Heap → List Loc → Prop} {C N : Nat}
theorem own_end (X : Stand p l e R s m args below meth c T locs cells slots) {v : Option Value} {U : State} (hv : meth.sig.returnType = none → v = none) (eT : T.heap = h) (hk : meth.locks = false)
    (st : ∀ fs, (∀ (f : JFrame) (acts : List Action), f.method = m → f.locked = none → f.entered = [] → (doReturn e (T.setTop f) acts v).1 = T.setFrames fs) → Steps p.tables e below U (T.setFrames fs))
    (hQ : Q v h locs) (hc : cells ≤ C) (hn : slots ≤ N) : own_Go p e below (own_PO s Q C N) U := by
  obtain ⟨fs, hr, hrun, hended, hW, hsame⟩ := X.leave (v := v) hv hk
  subst eT
  exact ⟨_, _, st fs hr, hrun, hended, _, _, rfl, hQ, ⟨_, rfl⟩, hW, hsame.mono hc hn⟩
theorem own_retV (X : Stand p l e R s m args below meth c T locs cells slots) (hx : p.tables.exec = Jvm.exec) {pc : Nat} {Ls : Array Slot} (hret : meth.sig.returnType = none) (hd : decode c.code pc = .ok (.return_, 1))
    (eT : T.heap = h) (hk : meth.locks = false) (hQ : Q none h locs) (hc : cells ≤ C) (hn : slots ≤ N) : own_Go p e below (own_PO s Q C N) (T.setTop (mkF m pc Ls [])) :=
  own_end X (fun _ => rfl) eT hk (fun fs hr => X.returnOut hx hret hd hr) hQ hc hn
theorem own_retI (X : Stand p l e R s m args below meth c T locs cells slots) (hx : p.tables.exec = Jvm.exec) {pc : Nat} {Ls : Array Slot} {z : Int32} {rest : List Value} (hret : meth.sig.returnType = some .int) (hd : decode c.code pc = .ok (.ireturn, 1))
    (eT : T.heap = h) (hk : meth.locks = false) (hQ : Q (some (.int z)) h locs) (hc : cells ≤ C) (hn : slots ≤ N) : own_Go p e below (own_PO s Q C N) (T.setTop (mkF m pc Ls (.int z :: rest))) :=
  own_end X (fun q => by rw [hret] at q; cases q) eT hk (fun fs hr => retOut X hx hret rfl (Or.inl ⟨rfl, Or.inl rfl, z, rfl⟩) hd hr) hQ hc hn
theorem own_retN (X : Stand p l e R s m args below meth c T locs cells slots) (hx : p.tables.exec = Jvm.exec) {pc : Nat} {Ls : Array Slot} {z : Int32} {t : FieldType} {rest : List Value} (hret : meth.sig.returnType = some t) (hz : nar t z = z) (ht : t = .boolean ∨ t = .byte ∨ t = .char ∨ t = .short) (hd : decode c.code pc = .ok (.ireturn, 1))
    (eT : T.heap = h) (hk : meth.locks = false) (hQ : Q (some (.int z)) h locs) (hc : cells ≤ C) (hn : slots ≤ N) : own_Go p e below (own_PO s Q C N) (T.setTop (mkF m pc Ls (.int z :: rest))) :=
  own_end X (fun q => by rw [hret] at q; cases q) eT hk (fun fs hr => retN X hx (t := t) hret ht hd (by rw [hz]; exact hr)) hQ hc hn
theorem own_retJ (X : Stand p l e R s m args below meth c T locs cells slots) (hx : p.tables.exec = Jvm.exec) {pc : Nat} {Ls : Array Slot} {z : Int64} {rest : List Value} (hret : meth.sig.returnType = some .long) (hd : decode c.code pc = .ok (.lreturn, 1))
    (eT : T.heap = h) (hk : meth.locks = false) (hQ : Q (some (.long z)) h locs) (hc : cells ≤ C) (hn : slots ≤ N) : own_Go p e below (own_PO s Q C N) (T.setTop (mkF m pc Ls (.long z :: rest))) :=
  own_end X (fun q => by rw [hret] at q; cases q) eT hk (fun fs hr => retOut X hx hret rfl (Or.inr (Or.inl ⟨rfl, rfl, z, rfl⟩)) hd hr) hQ hc hn
theorem own_retD (X : Stand p l e R s m args below meth c T locs cells slots) (hx : p.tables.exec = Jvm.exec) {pc : Nat} {Ls : Array Slot} {z : UInt64} {rest : List Value} (hret : meth.sig.returnType = some .double) (hd : decode c.code pc = .ok (.dreturn, 1))
    (eT : T.heap = h) (hk : meth.locks = false) (hQ : Q (some (.double z)) h locs) (hc : cells ≤ C) (hn : slots ≤ N) : own_Go p e below (own_PO s Q C N) (T.setTop (mkF m pc Ls (.double z :: rest))) :=
  own_end X (fun q => by rw [hret] at q; cases q) eT hk (fun fs hr => retOut X hx hret rfl (Or.inr (Or.inr (Or.inl ⟨rfl, rfl, z, rfl⟩))) hd hr) hQ hc hn
theorem own_retA (X : Stand p l e R s m args below meth c T locs cells slots) (hx : p.tables.exec = Jvm.exec) {pc : Nat} {Ls : Array Slot} {w : Value} {t : FieldType} {rest : List Value} (hret : meth.sig.returnType = some t) (ht : t.isReference = true) (hw : w.isRef = true) (hd : decode c.code pc = .ok (.areturn, 1))
    (eT : T.heap = h) (hk : meth.locks = false) (hQ : Q (some w) h locs) (hc : cells ≤ C) (hn : slots ≤ N) : own_Go p e below (own_PO s Q C N) (T.setTop (mkF m pc Ls (w :: rest))) :=
  own_end X (fun q => by rw [hret] at q; cases q) eT hk (fun fs hr => retOut X hx hret (by cases t <;> first | (cases ht; done) | (cases w <;> first | (cases hw; done) | rfl)) (Or.inr (Or.inr (Or.inr (Or.inr ⟨rfl, ht, hw⟩)))) hd hr) hQ hc hn
end New
end Jvm.RoadKit
namespace Jvm.RoadKit
open Sem ClassFile Op Lib Jvm.Stand Jvm.Free Jvm.LawKit
theorem own_eqI {args : Array Value} {first s : State} {o : Option Outcome} {idx : List Nat} {a : Term} {k : Int32} (h : (Cond.eq a (.int k)).value args first o s idx = some true) : a.eval args first o idx s = some (.int k) := by
  obtain ⟨x, y, h1, h2, h3, -⟩ := cmp_v (Or.inl h)
  cases h2
  cases x <;> simp [Kin, Value.isRef] at h3
  rename_i z
  have q : (Cond.eq a (.int k)).value args first o s idx = some (decide (z = k)) := Cond.eq_ints h1 rfl
  rw [q] at h
  rw [h1, of_decide_eq_true (Option.some.inj h)]
theorem own_eqJ {args : Array Value} {first s : State} {o : Option Outcome} {idx : List Nat} {a : Term} {k : Int64} (h : (Cond.eq a (.long k)).value args first o s idx = some true) : a.eval args first o idx s = some (.long k) := by
  obtain ⟨x, y, h1, h2, h3, -⟩ := cmp_v (Or.inl h)
  cases h2
  cases x <;> simp [Kin, Value.isRef] at h3
  rename_i z
  have q : (Cond.eq a (.long k)).value args first o s idx = some (decide (z = k)) := eq_L h1 rfl
  rw [q] at h
  rw [h1, of_decide_eq_true (Option.some.inj h)]
theorem own_fldI {args : Array Value} {s : State} {t : Term} {a : Addr} {C n d : String} {k : Int32} (ev : t.eval args s none [] s = some (.ref a)) (h : (Cond.eq (.field t C n d) (.int k)).value args s none s [] = some true) : Fld s s.heap a C n d (.int k) :=
  Fld.start ((fld_at ev).symm.trans (own_eqI h))
end Jvm.RoadKit
namespace Jvm.RoadKit
open Sem ClassFile Op Lib Jvm.Stand Jvm.Free Jvm.LawKit
section Heap
variable {p : Program} {l : Launch} {e : Env} {R : Room} {s : State} {m : MethodId} {args : Array Value} {below : List Frame} {meth : Method} {c : Code} {T : State} {locs : List Loc} {cells slots : Nat} {h h' : Heap} {Z : State}
  {a : Addr} {k : ClassId} {n : Int32} {vs : List Value} {dv : Value} {ws ws' : List Addr} {C : String}
theorem own_keep_more (K : Keep h h' ws) (q : ∀ x ∈ ws, x ∈ ws') : Keep h h' ws' := ⟨K.1, fun x c hx r => K.2.1 x c hx fun z => r (q x z), K.2.2⟩
theorem own_sta_keep {C n d : String} {v : Value} (F : Sta Z h C n d v) (K : Keep h h' ws) (q : ∀ x ∈ ws, ∀ cell : Cell, h[x]? = some cell → cell.vm.isStatics = false) : Sta Z h' C n d v := by
  obtain ⟨cf, i, kk, f, st, cell, h1, h2, h3, h4, h5, h6, h7⟩ := F
  exact ⟨cf, i, kk, f, st, cell, h1, h2, h3, h4, K.2.1 st cell h5 (fun z => by rw [q st z cell h5] at h6; cases h6), h6, h7⟩
/-- a private method is selected of itself: the class is no interface, as another 'selects' word says -/
theorem own_selpriv {s : State} {args args' : Array Value} {y z w : MethodName} (hs : (Cond.selects y.cls z w).before args' s = true) (hpriv : s.PrivateAt y) (hinst : (Cond.instanceMethod y).before args s = true) (hy : y.cls ≠ "java/lang/invoke/MethodHandle" ∧ y.cls ≠ "java/lang/invoke/VarHandle") (hw : w.cls = y.cls := by rfl) :
    (Cond.selects y.cls y y).before args s = true := by
  obtain ⟨c2, r2, m2, q1, q2, q3, q4, kP, hkP, hkPi⟩ := Cond.selects_spec hs
  have hc := findClass_of_methodNamed q3
  rw [hw] at hc
  exact selects_self_of_private hc hkP hkPi hpriv hinst hy
theorem own_stI (X : Stand p l e R s m args below meth c T locs cells slots) (hx : p.tables.exec = Jvm.exec) (hZ : Z.Warmed39 s.vm) (eT : T.heap = h) (A : Arv Z h a k .int n vs dv) {j x : Int32} (hj : ¬ j < 0 ∧ j < n) {i : Nat} (hi : j.toNatClampNeg = i) (hl : i < vs.length) {g : JFrame} (hg : g.method = m) {rest : List Value} (hs : g.stack = .int x :: .int j :: .ref a :: rest) (hd : decode c.code g.pc = .ok (.iastore, 1)) :
    ∃ T' h', Stand p l e R s m args below meth c T' (locs ++ [⟨a, j.toNatClampNeg⟩]) cells slots ∧ T'.heap = h' ∧ Wr h h' a j.toNatClampNeg (.int x) ∧ Arv Z h' a k .int n (vs.set i (.int x)) dv ∧ ∀ target, Steps p.tables e below (T'.setTop { g with pc := g.pc + 1, stack := rest }) target → Steps p.tables e below (T.setTop g) target := by
  obtain ⟨cl, Ar, q, S, N, H, G⟩ := A
  obtain ⟨T', h', X', e', W, st⟩ := stI X hx hZ eT Ar (inb_of S hj) hg hs hd
  exact ⟨T', h', X', e', W, Arv.set Ar q S N H G rfl W i hi hl, st⟩
theorem own_stJ (X : Stand p l e R s m args below meth c T locs cells slots) (hx : p.tables.exec = Jvm.exec) (hZ : Z.Warmed39 s.vm) (eT : T.heap = h) (A : Arv Z h a k .long n vs dv) {j : Int32} {x : Int64} (hj : ¬ j < 0 ∧ j < n) {i : Nat} (hi : j.toNatClampNeg = i) (hl : i < vs.length) {g : JFrame} (hg : g.method = m) {rest : List Value} (hs : g.stack = .long x :: .int j :: .ref a :: rest) (hd : decode c.code g.pc = .ok (.lastore, 1)) :
    ∃ T' h', Stand p l e R s m args below meth c T' (locs ++ [⟨a, j.toNatClampNeg⟩]) cells slots ∧ T'.heap = h' ∧ Wr h h' a j.toNatClampNeg (.long x) ∧ Arv Z h' a k .long n (vs.set i (.long x)) dv ∧ ∀ target, Steps p.tables e below (T'.setTop { g with pc := g.pc + 1, stack := rest }) target → Steps p.tables e below (T.setTop g) target := by
  obtain ⟨cl, Ar, q, S, N, H, G⟩ := A
  obtain ⟨T', h', X', e', W, st⟩ := stJ X hx hZ eT Ar (inb_of S hj) hg hs hd
  exact ⟨T', h', X', e', W, Arv.set Ar q S N H G rfl W i hi hl, st⟩
theorem own_stD (X : Stand p l e R s m args below meth c T locs cells slots) (hx : p.tables.exec = Jvm.exec) (hZ : Z.Warmed39 s.vm) (eT : T.heap = h) (A : Arv Z h a k .double n vs dv) {j : Int32} {x : UInt64} (hj : ¬ j < 0 ∧ j < n) {i : Nat} (hi : j.toNatClampNeg = i) (hl : i < vs.length) {g : JFrame} (hg : g.method = m) {rest : List Value} (hs : g.stack = .double x :: .int j :: .ref a :: rest) (hd : decode c.code g.pc = .ok (.dastore, 1)) :
    ∃ T' h', Stand p l e R s m args below meth c T' (locs ++ [⟨a, j.toNatClampNeg⟩]) cells slots ∧ T'.heap = h' ∧ Wr h h' a j.toNatClampNeg (.double x) ∧ Arv Z h' a k .double n (vs.set i (.double x)) dv ∧ ∀ target, Steps p.tables e below (T'.setTop { g with pc := g.pc + 1, stack := rest }) target → Steps p.tables e below (T.setTop g) target := by
  obtain ⟨cl, Ar, q, S, N, H, G⟩ := A
  obtain ⟨T', h', X', e', W, st⟩ := stD X hx hZ eT Ar (inb_of S hj) hg hs hd
  exact ⟨T', h', X', e', W, Arv.set Ar q S N H G rfl W i hi hl, st⟩
theorem own_stB (X : Stand p l e R s m args below meth c T locs cells slots) (hx : p.tables.exec = Jvm.exec) (hZ : Z.Warmed39 s.vm) (eT : T.heap = h) (A : Arv Z h a k .byte n vs dv) {j x : Int32} (hj : ¬ j < 0 ∧ j < n) {i : Nat} (hi : j.toNatClampNeg = i) (hl : i < vs.length) {g : JFrame} (hg : g.method = m) {rest : List Value} (hs : g.stack = .int x :: .int j :: .ref a :: rest) (hd : decode c.code g.pc = .ok (.bastore, 1)) :
    ∃ T' h', Stand p l e R s m args below meth c T' (locs ++ [⟨a, j.toNatClampNeg⟩]) cells slots ∧ T'.heap = h' ∧ Wr h h' a j.toNatClampNeg (.int (nar .byte x)) ∧ Arv Z h' a k .byte n (vs.set i (.int (nar .byte x))) dv ∧ ∀ target, Steps p.tables e below (T'.setTop { g with pc := g.pc + 1, stack := rest }) target → Steps p.tables e below (T.setTop g) target := by
  obtain ⟨cl, Ar, q, S, N, H, G⟩ := A
  obtain ⟨T', h', X', e', W, st⟩ := stB X hx hZ eT Ar (inb_of S hj) hg hs hd
  exact ⟨T', h', X', e', W, Arv.set Ar q S N H G (fits_nar_byte x) W i hi hl, st⟩
theorem own_stZ (X : Stand p l e R s m args below meth c T locs cells slots) (hx : p.tables.exec = Jvm.exec) (hZ : Z.Warmed39 s.vm) (eT : T.heap = h) (A : Arv Z h a k .boolean n vs dv) {j x : Int32} (hj : ¬ j < 0 ∧ j < n) {i : Nat} (hi : j.toNatClampNeg = i) (hl : i < vs.length) {g : JFrame} (hg : g.method = m) {rest : List Value} (hs : g.stack = .int x :: .int j :: .ref a :: rest) (hd : decode c.code g.pc = .ok (.bastore, 1)) :
    ∃ T' h', Stand p l e R s m args below meth c T' (locs ++ [⟨a, j.toNatClampNeg⟩]) cells slots ∧ T'.heap = h' ∧ Wr h h' a j.toNatClampNeg (.int (nar .boolean x)) ∧ Arv Z h' a k .boolean n (vs.set i (.int (nar .boolean x))) dv ∧ ∀ target, Steps p.tables e below (T'.setTop { g with pc := g.pc + 1, stack := rest }) target → Steps p.tables e below (T.setTop g) target := by
  obtain ⟨cl, Ar, q, S, N, H, G⟩ := A
  obtain ⟨T', h', X', e', W, st⟩ := stZ X hx hZ eT Ar (inb_of S hj) hg hs hd
  exact ⟨T', h', X', e', W, Arv.set Ar q S N H G (fits_nar_bool x) W i hi hl, st⟩
theorem own_stC (X : Stand p l e R s m args below meth c T locs cells slots) (hx : p.tables.exec = Jvm.exec) (hZ : Z.Warmed39 s.vm) (eT : T.heap = h) (A : Arv Z h a k .char n vs dv) {j x : Int32} (hj : ¬ j < 0 ∧ j < n) {i : Nat} (hi : j.toNatClampNeg = i) (hl : i < vs.length) {g : JFrame} (hg : g.method = m) {rest : List Value} (hs : g.stack = .int x :: .int j :: .ref a :: rest) (hd : decode c.code g.pc = .ok (.castore, 1)) :
    ∃ T' h', Stand p l e R s m args below meth c T' (locs ++ [⟨a, j.toNatClampNeg⟩]) cells slots ∧ T'.heap = h' ∧ Wr h h' a j.toNatClampNeg (.int (nar .char x)) ∧ Arv Z h' a k .char n (vs.set i (.int (nar .char x))) dv ∧ ∀ target, Steps p.tables e below (T'.setTop { g with pc := g.pc + 1, stack := rest }) target → Steps p.tables e below (T.setTop g) target := by
  obtain ⟨cl, Ar, q, S, N, H, G⟩ := A
  obtain ⟨T', h', X', e', W, st⟩ := stC X hx hZ eT Ar (inb_of S hj) hg hs hd
  exact ⟨T', h', X', e', W, Arv.set Ar q S N H G (fits_nar_char x) W i hi hl, st⟩
theorem own_stR (X : Stand p l e R s m args below meth c T locs cells slots) (hx : p.tables.exec = Jvm.exec) (hZ : Z.Warmed39 s.vm) (eT : T.heap = h) (A : Arv Z h a k (.object C) n vs dv) (O : Ovr Z k C) {y : Addr} (I : Ins Z h y C true) {j : Int32} (hj : ¬ j < 0 ∧ j < n) {i : Nat} (hi : j.toNatClampNeg = i) (hl : i < vs.length) {g : JFrame} (hg : g.method = m) {rest : List Value} (hs : g.stack = .ref y :: .int j :: .ref a :: rest) (hd : decode c.code g.pc = .ok (.aastore, 1)) :
    ∃ T' h', Stand p l e R s m args below meth c T' (locs ++ [⟨a, j.toNatClampNeg⟩]) cells slots ∧ T'.heap = h' ∧ Wr h h' a j.toNatClampNeg (.ref y) ∧ Arv Z h' a k (.object C) n (vs.set i (.ref y)) dv ∧ ∀ target, Steps p.tables e below (T'.setTop { g with pc := g.pc + 1, stack := rest }) target → Steps p.tables e below (T.setTop g) target := by
  obtain ⟨cl, Ar, q, S, N, H, G⟩ := A
  obtain ⟨T', h', X', e', W, st⟩ := stR X hx hZ eT Ar (inb_of S hj) rfl (Sto.ofV Ar q O I) hg hs hd
  exact ⟨T', h', X', e', W, Arv.set Ar q S N H G rfl W i hi hl, st⟩
theorem own_ldI (X : Stand p l e R s m args below meth c T locs cells slots) (hx : p.tables.exec = Jvm.exec) (hZ : Z.Warmed39 s.vm) (eT : T.heap = h) (A : Arv Z h a k .int n vs dv) {j : Int32} {v : Value} (hj : ¬ j < 0 ∧ j < n) (hv : vs.getD j.toNatClampNeg dv = v) {g : JFrame} (hg : g.method = m) {rest : List Value} (hs : g.stack = .int j :: .ref a :: rest) (hd : decode c.code g.pc = .ok (.iaload, 1)) :
    ∀ target, Steps p.tables e below (T.setTop { g with pc := g.pc + 1, stack := v :: rest }) target → Steps p.tables e below (T.setTop g) target := by
  obtain ⟨cl, Ar, q, S, N, H, G⟩ := A
  exact fun t k => X.iaload hx (by rw [eT]; exact Ar.1) (State.isArrayOf_alike hZ.alike Ar.2.1) Ar.2.2 (inb_of S hj) (H.at (inb_of S hj) hv) hg hs hd t k
theorem own_ldJ (X : Stand p l e R s m args below meth c T locs cells slots) (hx : p.tables.exec = Jvm.exec) (hZ : Z.Warmed39 s.vm) (eT : T.heap = h) (A : Arv Z h a k .long n vs dv) {j : Int32} {v : Value} (hj : ¬ j < 0 ∧ j < n) (hv : vs.getD j.toNatClampNeg dv = v) {g : JFrame} (hg : g.method = m) {rest : List Value} (hs : g.stack = .int j :: .ref a :: rest) (hd : decode c.code g.pc = .ok (.laload, 1)) :
    ∀ target, Steps p.tables e below (T.setTop { g with pc := g.pc + 1, stack := v :: rest }) target → Steps p.tables e below (T.setTop g) target := by
  obtain ⟨cl, Ar, q, S, N, H, G⟩ := A
  exact fun t k => X.laload hx (by rw [eT]; exact Ar.1) (State.isArrayOf_alike hZ.alike Ar.2.1) Ar.2.2 (inb_of S hj) (H.at (inb_of S hj) hv) hg hs hd t k
theorem own_ldC (X : Stand p l e R s m args below meth c T locs cells slots) (hx : p.tables.exec = Jvm.exec) (hZ : Z.Warmed39 s.vm) (eT : T.heap = h) (A : Arv Z h a k .char n vs dv) {j : Int32} {v : Value} (hj : ¬ j < 0 ∧ j < n) (hv : vs.getD j.toNatClampNeg dv = v) {g : JFrame} (hg : g.method = m) {rest : List Value} (hs : g.stack = .int j :: .ref a :: rest) (hd : decode c.code g.pc = .ok (.caload, 1)) :
    ∀ target, Steps p.tables e below (T.setTop { g with pc := g.pc + 1, stack := v :: rest }) target → Steps p.tables e below (T.setTop g) target := by
  obtain ⟨cl, Ar, q, S, N, H, G⟩ := A
  exact fun t k => X.caload hx (by rw [eT]; exact Ar.1) (State.isArrayOf_alike hZ.alike Ar.2.1) Ar.2.2 (inb_of S hj) (H.at (inb_of S hj) hv) hg hs hd t k
theorem own_ldD (X : Stand p l e R s m args below meth c T locs cells slots) (hx : p.tables.exec = Jvm.exec) (hZ : Z.Warmed39 s.vm) (eT : T.heap = h) (A : Arv Z h a k .double n vs dv) {j : Int32} {v : Value} (hj : ¬ j < 0 ∧ j < n) (hv : vs.getD j.toNatClampNeg dv = v) {g : JFrame} (hg : g.method = m) {rest : List Value} (hs : g.stack = .int j :: .ref a :: rest) (hd : decode c.code g.pc = .ok (.daload, 1)) :
    ∀ target, Steps p.tables e below (T.setTop { g with pc := g.pc + 1, stack := v :: rest }) target → Steps p.tables e below (T.setTop g) target := by
  obtain ⟨cl, Ar, q, S, N, H, G⟩ := A
  exact fun t k => X.daload hx (by rw [eT]; exact Ar.1) (State.isArrayOf_alike hZ.alike Ar.2.1) Ar.2.2 (inb_of S hj) (H.at (inb_of S hj) hv) hg hs hd t k
theorem own_ldB (X : Stand p l e R s m args below meth c T locs cells slots) (hx : p.tables.exec = Jvm.exec) (hZ : Z.Warmed39 s.vm) (eT : T.heap = h) (A : Arv Z h a k .byte n vs dv) {j : Int32} {v : Value} (hj : ¬ j < 0 ∧ j < n) (hv : vs.getD j.toNatClampNeg dv = v) {g : JFrame} (hg : g.method = m) {rest : List Value} (hs : g.stack = .int j :: .ref a :: rest) (hd : decode c.code g.pc = .ok (.baload, 1)) :
    ∀ target, Steps p.tables e below (T.setTop { g with pc := g.pc + 1, stack := v :: rest }) target → Steps p.tables e below (T.setTop g) target := by
  obtain ⟨cl, Ar, q, S, N, H, G⟩ := A
  exact fun t k => X.baloadBytes hx (by rw [eT]; exact Ar.1) (State.isArrayOf_alike hZ.alike Ar.2.1) Ar.2.2 (inb_of S hj) (H.at (inb_of S hj) hv) hg hs hd t k
theorem own_ldR (X : Stand p l e R s m args below meth c T locs cells slots) (hx : p.tables.exec = Jvm.exec) (hZ : Z.Warmed39 s.vm) (eT : T.heap = h) {ty : FieldType} (A : Arv Z h a k ty n vs dv) (hty : ty.isReference = true) {j : Int32} {v : Value} (hj : ¬ j < 0 ∧ j < n) (hv : vs.getD j.toNatClampNeg dv = v) {g : JFrame} (hg : g.method = m) {rest : List Value} (hs : g.stack = .int j :: .ref a :: rest) (hd : decode c.code g.pc = .ok (.aaload, 1)) :
    ∀ target, Steps p.tables e below (T.setTop { g with pc := g.pc + 1, stack := v :: rest }) target → Steps p.tables e below (T.setTop g) target := by
  obtain ⟨cl, Ar, q, S, N, H, G⟩ := A
  exact fun t k => X.aaload hx (by rw [eT]; exact Ar.1) (State.isArrayOf_alike hZ.alike Ar.2.1) hty Ar.2.2 (inb_of S hj) (H.at (inb_of S hj) hv) hg hs hd t k
theorem own_len (X : Stand p l e R s m args below meth c T locs cells slots) (hx : p.tables.exec = Jvm.exec) (hZ : Z.Warmed39 s.vm) (eT : T.heap = h) {ty : FieldType} (A : Arv Z h a k ty n vs dv) {g : JFrame} (hg : g.method = m) {rest : List Value} (hs : g.stack = .ref a :: rest) (hd : decode c.code g.pc = .ok (.arraylength, 1)) :
    ∀ target, Steps p.tables e below (T.setTop { g with pc := g.pc + 1, stack := .int n :: rest }) target → Steps p.tables e below (T.setTop g) target := by
  obtain ⟨cl, Ar, q, S, N, H, G⟩ := A
  intro t kk
  refine X.arraylength hx (by rw [eT]; exact Ar.1) (State.isArrayOf_alike hZ.alike Ar.2.1) hg hs hd t ?_
  rw [len_of S N]; exact kk
end Heap
end Jvm.RoadKit
namespace Jvm.RoadKit
open Sem ClassFile Op Lib Jvm.Stand Jvm.Free Jvm.LawKit
def own_POW (s : State) (Q : Option Value → Heap → List Loc → Prop) (C N : Nat) : Outcome → State → Prop :=
  fun o U' => ∃ v L, o = .returned v ∧ Q v U'.heap L ∧ ReturnedEndW s o U' L C N
section NewW
variable {p : Program} {l : Launch} {e : Env} {R : Room} {s : State} {m : MethodId} {args : Array Value} {below : List Frame} {meth : Method} {c : Code} {T : State} {locs : List Loc} {cells slots : Nat} {h : Heap}
  {Q : Option Value → Heap → List Loc → Prop} {C N : Nat} {vm0 : Vm} {k0 : Nat}
theorem own_endW (X : Stand p l e R (s.setVm vm0) m args below meth c T locs cells slots) {v : Option Value} {U : State} (hv : meth.sig.returnType = none → v = none) (eT : T.heap = h) (hk : meth.locks = false)
    (st : ∀ fs, (∀ (f : JFrame) (acts : List Action), f.method = m → f.locked = none → f.entered = [] → (doReturn e (T.setTop f) acts v).1 = T.setFrames fs) → Steps p.tables e below U (T.setFrames fs))
    (hQ : Q v h locs) (hc : cells ≤ C) (hn : slots ≤ N) (hS : s.Since vm0 k0) (hk0 : k0 ≤ h.size) : own_Go p e below (own_POW s Q C N) U := by
  subst eT
  obtain ⟨fs, hr, hrun, hended, hW⟩ := X.leaveW hS hk0 (v := v) hv hk
  exact ⟨_, _, st fs hr, hrun, hended, _, _, rfl, hQ, hW.1, hW.2.1, hW.2.2.1, hW.2.2.2.mono hc hn⟩
theorem own_retVW (X : Stand p l e R (s.setVm vm0) m args below meth c T locs cells slots) (hx : p.tables.exec = Jvm.exec) {pc : Nat} {Ls : Array Slot} (hret : meth.sig.returnType = none) (hd : decode c.code pc = .ok (.return_, 1))
    (eT : T.heap = h) (hk : meth.locks = false) (hQ : Q none h locs) (hc : cells ≤ C) (hn : slots ≤ N) (hS : s.Since vm0 k0) (hk0 : k0 ≤ h.size) : own_Go p e below (own_POW s Q C N) (T.setTop (mkF m pc Ls [])) :=
  own_endW X (fun _ => rfl) eT hk (fun fs hr => X.returnOut hx hret hd hr) hQ hc hn hS hk0
theorem own_retIW (X : Stand p l e R (s.setVm vm0) m args below meth c T locs cells slots) (hx : p.tables.exec = Jvm.exec) {pc : Nat} {Ls : Array Slot} {z : Int32} {rest : List Value} (hret : meth.sig.returnType = some .int) (hd : decode c.code pc = .ok (.ireturn, 1))
    (eT : T.heap = h) (hk : meth.locks = false) (hQ : Q (some (.int z)) h locs) (hc : cells ≤ C) (hn : slots ≤ N) (hS : s.Since vm0 k0) (hk0 : k0 ≤ h.size) : own_Go p e below (own_POW s Q C N) (T.setTop (mkF m pc Ls (.int z :: rest))) :=
  own_endW X (fun q => by rw [hret] at q; cases q) eT hk (fun fs hr => retOut X hx hret rfl (Or.inl ⟨rfl, Or.inl rfl, z, rfl⟩) hd hr) hQ hc hn hS hk0
theorem own_retNW (X : Stand p l e R (s.setVm vm0) m args below meth c T locs cells slots) (hx : p.tables.exec = Jvm.exec) {pc : Nat} {Ls : Array Slot} {z : Int32} {t : FieldType} {rest : List Value} (hret : meth.sig.returnType = some t) (hz : nar t z = z) (ht : t = .boolean ∨ t = .byte ∨ t = .char ∨ t = .short) (hd : decode c.code pc = .ok (.ireturn, 1))
    (eT : T.heap = h) (hk : meth.locks = false) (hQ : Q (some (.int z)) h locs) (hc : cells ≤ C) (hn : slots ≤ N) (hS : s.Since vm0 k0) (hk0 : k0 ≤ h.size) : own_Go p e below (own_POW s Q C N) (T.setTop (mkF m pc Ls (.int z :: rest))) :=
  own_endW X (fun q => by rw [hret] at q; cases q) eT hk (fun fs hr => retN X hx (t := t) hret ht hd (by rw [hz]; exact hr)) hQ hc hn hS hk0
theorem own_retAW (X : Stand p l e R (s.setVm vm0) m args below meth c T locs cells slots) (hx : p.tables.exec = Jvm.exec) {pc : Nat} {Ls : Array Slot} {w : Value} {t : FieldType} {rest : List Value} (hret : meth.sig.returnType = some t) (ht : t.isReference = true) (hw : w.isRef = true) (hd : decode c.code pc = .ok (.areturn, 1))
    (eT : T.heap = h) (hk : meth.locks = false) (hQ : Q (some w) h locs) (hc : cells ≤ C) (hn : slots ≤ N) (hS : s.Since vm0 k0) (hk0 : k0 ≤ h.size) : own_Go p e below (own_POW s Q C N) (T.setTop (mkF m pc Ls (w :: rest))) :=
  own_endW X (fun q => by rw [hret] at q; cases q) eT hk (fun fs hr => retOut X hx hret (by cases t <;> first | (cases ht; done) | (cases w <;> first | (cases hw; done) | rfl)) (Or.inr (Or.inr (Or.inr (Or.inr ⟨rfl, ht, hw⟩)))) hd hr) hQ hc hn hS hk0
end NewW
end Jvm.RoadKit
namespace Jvm.RoadKit
open Sem ClassFile Op Lib Jvm.Stand Jvm.Free Jvm.LawKit
def own_POH (Z : State) (EL : List (String × Nat)) (s : State) (Q : Option Value → Heap → List Loc → Prop) (C N : Nat) : Outcome → State → Prop :=
  fun o U' => ∃ v L, o = .returned v ∧ Q v U'.heap L ∧ CHr Z EL s.vm s.heap U'.vm U'.heap ∧ ReturnedEndW s o U' L C N
theorem own_retAH {p : Program} {l : Launch} {e : Env} {R : Room} {s : State} {m : MethodId} {args : Array Value} {below : List Frame} {meth : Method} {c : Code} {T : State} {locs : List Loc} {cells slots : Nat} {h : Heap} {Z : State} {EL : List (String × Nat)}
    {Q : Option Value → Heap → List Loc → Prop} {C N : Nat} {vm0 : Vm} {k0 : Nat} (X : Stand p l e R (s.setVm vm0) m args below meth c T locs cells slots) (hx : p.tables.exec = Jvm.exec) {pc : Nat} {Ls : Array Slot} {w : Value} {t : FieldType} {rest : List Value} (hret : meth.sig.returnType = some t) (ht : t.isReference = true) (hw : w.isRef = true) (hd : decode c.code pc = .ok (.areturn, 1))
    (eT : T.heap = h) (hk : meth.locks = false) (hQ : Q (some w) h locs) (hc : cells ≤ C) (hn : slots ≤ N) (hS : s.Since vm0 k0) (hk0 : k0 ≤ h.size) (hC : CHr Z EL s.vm s.heap T.vm h) : own_Go p e below (own_POH Z EL s Q C N) (T.setTop (mkF m pc Ls (w :: rest))) := by
  subst eT
  obtain ⟨fs, hr, hrun, hended, hW⟩ := X.leaveW hS hk0 (v := some w) (fun q => by rw [hret] at q; cases q) hk
  exact ⟨_, _, retOut X hx hret (by cases t <;> first | (cases ht; done) | (cases w <;> first | (cases hw; done) | rfl)) (Or.inr (Or.inr (Or.inr (Or.inr ⟨rfl, ht, hw⟩)))) hd hr, hrun, hended, _, _, rfl, hQ, hC, hW.1, hW.2.1, hW.2.2.1, hW.2.2.2.mono hc hn⟩
theorem own_backSafe {p : Program} {l : Launch} {e : Env} {R : Room} {s : State} {args : Array Value} {below : List Frame} {Z : State} {a0 : Array Value} {EL : List (String × Nat)} {h : Heap} {vm0 : Vm} {x : Addr} {y : MethodName} {bytes : ByteArray} {maxL : Nat} {ret : Option FieldType} {rm : Room} {len W : Nat} {as' : Array Value} {Q : Option Value → Heap → List Loc → Prop}
    (hM : MetFree l y (head1 [Cond.code y bytes maxL ret] rm) (fun a U => a = as' ∧ Z.Warmed39 U.vm ∧ U.heap = h ∧ CHv Z EL U.vm h ∧ Safe Z EL U.vm h x) (fun _ _ _ _ _ => True) (fun _ U o U' => ∃ v L, o = .returned v ∧ Q v U'.heap L ∧ ReturnedEndW U o U' L rm.cells rm.slots))
    (hZ : Z.Warmed39 vm0) (wc : (Cond.code y bytes maxL ret).before a0 Z = true) (wz : (Cond.initialized y.cls).before a0 Z = true) (hf : rm.frames + 1 ≤ R.frames) (hl : W + (maxL + 11) + rm.locals ≤ R.locals) (hEL : EW Z a0 EL) (H : CHv Z EL vm0 h) (S : Safe Z EL vm0 h x) (hx : x < h.size) :
    BackS l R p e below (s.setVm vm0) args y len W (fun A a => a = as' ∧ A.U.heap = h ∧ A.cells + rm.cells ≤ R.cells ∧ A.slots + rm.slots ≤ R.slots)
      (fun A _ v B => ∃ L, Q v B.U.heap L ∧ B.locs = A.locs ++ L ∧ B.cells = A.cells + rm.cells ∧ B.slots = A.slots + rm.slots) :=
  BackS.of_freeW (bytes := bytes) (maxL := maxL) (ret := ret) (E := fun _ _ o t L k n => k = rm.cells ∧ n = rm.slots ∧ ∃ v, o = .returned v ∧ Q v t.heap L) hM hf hl
    (fun m meth c A a Y hp => have hU : Z.Warmed39 A.U.vm := wtrans (s := s.setVm vm0) hZ Y.warmed
      ⟨by show (Cond.and _ .tt).before a A.U = true; rw [Cond.before_and, mv hU wc]; rfl, mv hU wc, mv hU wz, hp.2.2.1, hp.2.2.2⟩)
    (fun m meth c A a g mk Y hp => ⟨hp.1, wtrans (s := s.setVm vm0) hZ Y.warmed, hp.2.1, (CHv.at Y hZ hEL H).1, (CHv.at Y hZ hEL H).safe hx S⟩) (fun _ _ _ _ _ _ _ _ _ => trivial)
    (fun _ _ _ _ ⟨v, L, h1, h2, h3⟩ => ⟨L, _, _, h3, rfl, rfl, v, h1, h2⟩)
    (fun m meth c A a g mk v t L k n Y hp _ _ ⟨e1, e2, v', e3, e4⟩ => by cases e3; subst e1 e2; exact ⟨L, e4, rfl, rfl, rfl⟩)
end Jvm.RoadKit
namespace Jvm.Pilot.@@N@@
open Jvm Jvm.ClassFile Sem Op Lib Jvm.Free Jvm.Stand Jvm.LawKit Jvm.RoadKit Bundle Jvm.Pilot.@@N@@.Jvm.D
theorem own_wS {Z : State} {a0 : Array Value} (hw : ∀ d ∈ tables_1, d.before a0 Z = true) : ∀ a ∈ Bundle.stringAtoms, a.before a0 Z = true := by
  intro a ha
  simp only [Bundle.stringAtoms, List.mem_cons, List.not_mem_nil, or_false] at ha
  rcases ha with rfl | rfl | rfl | rfl | rfl | rfl | rfl
  · exact (hw _ (List.mem_of_getElem? (i := 22) rfl))
  · exact (hw _ (List.mem_of_getElem? (i := 23) rfl))
  · exact (hw _ (List.mem_of_getElem? (i := 24) rfl))
  · exact (hw _ (List.mem_of_getElem? (i := 25) rfl))
  · exact (hw _ (List.mem_of_getElem? (i := 26) rfl))
  · exact (hw _ (List.mem_of_getElem? (i := 27) rfl))
  · exact (hw _ (List.mem_of_getElem? (i := 28) rfl))
theorem own_EW {Z : State} {a0 : Array Value} (hw : ∀ d ∈ tables_1, d.before a0 Z = true) : EW Z a0 consts_1 := by
  show EW Z a0 [("com/example/juncture/juncture/eval/BooleanValue", 32), ("com/example/juncture/juncture/eval/BooleanValue", 33)]
  exact EW.cons (text := "TRUE") (hw _ (List.mem_of_getElem? (i := 64) rfl)) (by decide +kernel) (EW.cons (text := "FALSE") (hw _ (List.mem_of_getElem? (i := 21) rfl)) (by decide +kernel) EW.nil)
theorem d2_0 : decode jdk_30_method_1_code 0 = .ok (.aload_n 0, 1) := by decide +kernel
theorem d2_1 : decode jdk_30_method_1_code 1 = .ok (.invokespecial 1, 3) := by decide +kernel
theorem d2_4 : decode jdk_30_method_1_code 4 = .ok (.return_, 1) := by decide +kernel
theorem pn_0 : plainName "java/lang/Record" = true := by first | (simp [plainName, overriddenIn]; done) | decide +kernel
theorem ef_rm2 (m : MethodId) (x0 : Addr) : entryFrame m #[(.ref x0)] 1 = mkF m 0 #[.val (.ref x0)] [] := by first | (simp [entryFrame, mkF, argsToLocals, Value.category]; done) | rfl
def Q_rm2 (h0 : Heap) (n0 : Nat) (v : Option Value) (h : Heap) (L : List Loc) : Prop := v = none ∧ Fr n0 L ∧ h = h0
set_option maxRecDepth 65536 in
set_option maxHeartbeats 40000000 in
theorem rm2 (l : Launch) (Z : State) (a0 : Array Value) (hw : ∀ d ∈ tables_1, d.before a0 Z = true) (ws : List Jvm.Cond) (aO : Addr)  (h0 : Heap) (n0 : Nat) (Z0 : n0 ≤ h0.size)  :
    MetFree l (⟨"java/lang/Record", "<init>", "()V"⟩ : MethodName) (head1 (Jvm.Cond.code (⟨"java/lang/Record", "<init>", "()V"⟩ : MethodName) jdk_30_method_1_code 1 none :: ws) ({ frames := 1, cells := 0, slots := 0, locals := 12 } : Room)) (fun a U => a = #[(.ref aO)] ∧ Z.Warmed39 U.vm ∧ U.heap = h0) (fun _ _ _ _ _ => True) (fun _ U o U' => ∃ v L, o = .returned v ∧ Q_rm2 h0 n0 v U'.heap L ∧ FrameEnd U o U' L ({ frames := 1, cells := 0, slots := 0, locals := 12 } : Room).cells ({ frames := 1, cells := 0, slots := 0, locals := 12 } : Room).slots) := by
  refine MetFree.of_bodySF (plainFor_of_name pn_0) hisR ?_
  intro p e s m args below meth c s₁ Bd hml0 hP hK
  obtain ⟨rfl, hZ, hh⟩ := hP
  have hx := Bd.exec
  have hby := Bd.bytes
  have hml : c.maxLocals = 1 := hml0
  have hown : s.vm.findClass "java/lang/Record" = some m.cls := findClass_of_methodNamed Bd.named
  have hnm := (name_of_methodNamed Bd.named Bd.method).1
  have X0 : Stand p l e ({ frames := 1, cells := 0, slots := 0, locals := 12 } : Room) s m #[(.ref aO)] below meth c s₁ [] 0 0 := Stand.of_body Bd
  have e0 : s₁.heap = h0 := by rw [← hh, Bd.state]; rfl
  have N0 := Fr.nil n0
  let PO : Outcome → State → Prop := own_PO s (Q_rm2 h0 n0) 0 0
  show own_Go p e below PO (s₁.setTop (entryFrame m #[(.ref aO)] 1))
  rw [ef_rm2]
  show own_Go p e below PO (s₁.setTop (mkF m 0 #[.val (.ref aO)] []))
  refine own_back ?_ (fun t k => XS.aloadN X0.here hx rfl (hb hby d2_0) rfl rfl k)
  show own_Go p e below PO (s₁.setTop (mkF m 1 #[.val (.ref aO)] [(.ref aO)]))
  obtain ⟨T1, X1, e1, st1⟩ := initO X0 hx hZ hown (hw _ (List.mem_of_getElem? (i := 11) rfl)) (hw _ (List.mem_of_getElem? (i := 12) rfl)) (hw _ (List.mem_of_getElem? (i := 13) rfl)) e0 (g := (mkF m 1 #[.val (.ref aO)] [(.ref aO)])) rfl (by rw [hml]; rfl) rfl (hb hby d2_1) (by decide) (W := 0) (by show 2 * 0 + _ ≤ _; exact Nat.le_of_eq rfl) (by decide)
  refine own_back ?_ st1
  show own_Go p e below PO (T1.setTop (mkF m 4 #[.val (.ref aO)] []))
  refine own_retV X1 hx Bd.returns (hb hby d2_4) e1 (Bd.notSynchronized) ?_ (by decide) (by decide)
  exact ⟨by first | rfl | decide, N0, rfl⟩
theorem pd_0 : parseMethodDescriptor "()V" = some ⟨[], none⟩ := by decide +kernel
theorem d1_0 : decode prog_11_method_1_code 0 = .ok (.aload_n 0, 1) := by decide +kernel
theorem d1_1 : decode prog_11_method_1_code 1 = .ok (.invokespecial 1, 3) := by decide +kernel
theorem d1_4 : decode prog_11_method_1_code 4 = .ok (.aload_n 0, 1) := by decide +kernel
theorem d1_5 : decode prog_11_method_1_code 5 = .ok (.iload_n 1, 1) := by decide +kernel
theorem d1_6 : decode prog_11_method_1_code 6 = .ok (.putfield 7, 3) := by decide +kernel
theorem d1_9 : decode prog_11_method_1_code 9 = .ok (.return_, 1) := by decide +kernel
theorem pn_1 : plainName "com/example/juncture/juncture/eval/BooleanValue" = true := by first | (simp [plainName, overriddenIn]; done) | decide +kernel
theorem ef_rmIni_1 (m : MethodId) (x0 : Addr) (x1 : Int32) : entryFrame m #[(.ref x0), (.int x1)] 2 = mkF m 0 #[.val (.ref x0), .val (.int x1)] [] := by first | (simp [entryFrame, mkF, argsToLocals, Value.category]; done) | rfl
def Q_rmIni_1 (Z : State) (aV : Addr) (h0 : Heap) (n0 : Nat) (v : Option Value) (h : Heap) (L : List Loc) : Prop := v = none ∧ Fr n0 L ∧ Keep h0 h [aV] ∧ Fld Z h aV "com/example/juncture/juncture/eval/BooleanValue" "value" "Z" (.int (1 : Int32))
set_option maxRecDepth 65536 in
set_option maxHeartbeats 40000000 in
theorem rmIni_1 (l : Launch) (Z : State) (a0 : Array Value) (hw : ∀ d ∈ tables_1, d.before a0 Z = true) (ws : List Jvm.Cond) (aV : Addr)  (h0 : Heap) (n0 : Nat) (Z0 : n0 ≤ h0.size) (E_V : Exa Z h0 aV "com/example/juncture/juncture/eval/BooleanValue") (F_V : Fld Z h0 aV "com/example/juncture/juncture/eval/BooleanValue" "value" "Z" (.int (0 : Int32))) (gn_aV : n0 ≤ aV) :
    MetFree l (⟨"com/example/juncture/juncture/eval/BooleanValue", "<init>", "(Z)V"⟩ : MethodName) (head1 (Jvm.Cond.code (⟨"com/example/juncture/juncture/eval/BooleanValue", "<init>", "(Z)V"⟩ : MethodName) prog_11_method_1_code 2 none :: ws) ({ frames := 2, cells := 0, slots := 0, locals := 24 } : Room)) (fun a U => a = #[(.ref aV), (.int (1 : Int32))] ∧ Z.Warmed39 U.vm ∧ U.heap = h0) (fun _ _ _ _ _ => True) (fun _ U o U' => ∃ v L, o = .returned v ∧ Q_rmIni_1 Z aV h0 n0 v U'.heap L ∧ FrameEnd U o U' L ({ frames := 2, cells := 0, slots := 0, locals := 24 } : Room).cells ({ frames := 2, cells := 0, slots := 0, locals := 24 } : Room).slots) := by
  refine MetFree.of_bodySF (plainFor_of_name pn_1) hisR ?_
  intro p e s m args below meth c s₁ Bd hml0 hP hK
  obtain ⟨rfl, hZ, hh⟩ := hP
  have hx := Bd.exec
  have hby := Bd.bytes
  have hml : c.maxLocals = 2 := hml0
  have hown : s.vm.findClass "com/example/juncture/juncture/eval/BooleanValue" = some m.cls := findClass_of_methodNamed Bd.named
  have hnm := (name_of_methodNamed Bd.named Bd.method).1
  have X0 : Stand p l e ({ frames := 2, cells := 0, slots := 0, locals := 24 } : Room) s m #[(.ref aV), (.int (1 : Int32))] below meth c s₁ [] 0 0 := Stand.of_body Bd
  have e0 : s₁.heap = h0 := by rw [← hh, Bd.state]; rfl
  have N0 := Fr.nil n0
  let PO : Outcome → State → Prop := own_PO s (Q_rmIni_1 Z aV h0 n0) 0 0
  show own_Go p e below PO (s₁.setTop (entryFrame m #[(.ref aV), (.int (1 : Int32))] 2))
  rw [ef_rmIni_1]
  show own_Go p e below PO (s₁.setTop (mkF m 0 #[.val (.ref aV), .val (.int (1 : Int32))] []))
  refine own_back ?_ (fun t k => XS.aloadN X0.here hx rfl (hb hby d1_0) rfl rfl k)
  show own_Go p e below PO (s₁.setTop (mkF m 1 #[.val (.ref aV), .val (.int (1 : Int32))] [(.ref aV)]))
  obtain ⟨_, _, ⟨T1, L1, k1, n1⟩, -, X1, ⟨Lc1, hQ1, l1, y1, z1⟩, st1⟩ := X0.specialBack hx (y := (⟨"java/lang/Record", "<init>", "()V"⟩ : MethodName)) rfl hown (mvT hZ (hw _ (List.mem_of_getElem? (i := 6) rfl))) (mvT hZ (hw _ (List.mem_of_getElem? (i := 7) rfl))) (mvT hZ (hw _ (List.mem_of_getElem? (i := 10) rfl))) (by decide) (backOf (W := 0) (rm2 l Z a0 hw [] aV  h0 n0 Z0 ) hZ (hw _ (List.mem_of_getElem? (i := 10) rfl)) (hw _ (List.mem_of_getElem? (i := 9) rfl)) (by decide) (by decide)) (g := (mkF m 1 #[.val (.ref aV), .val (.int (1 : Int32))] [(.ref aV)])) rfl (by rw [hml]; rfl) (Steps.refl _) (a := aV) (argsL := []) (rest := []) (lenOf pd_0 rfl) rfl (by show 2 * 0 + _ ≤ _; exact Nat.le_of_eq rfl) (hb hby d1_1) (fun _ _ => ⟨rfl, e0, (by decide : 0 + 0 ≤ _), (by decide : 0 + 0 ≤ _)⟩)
  dsimp only [Pt.U, Pt.locs, Pt.cells, Pt.slots] at X1 l1 y1 z1 st1 hQ1
  subst l1 y1 z1
  obtain ⟨rfl, N1q, e1⟩ := hQ1
  have N1 := Fr.app N0 N1q
  refine own_back ?_ (fun t k => st1.trans k)
  show own_Go p e below PO (T1.setTop (mkF m 4 #[.val (.ref aV), .val (.int (1 : Int32))] []))
  refine own_back ?_ (fun t k => XS.aloadN X1.here hx rfl (hb hby d1_4) rfl rfl k)
  show own_Go p e below PO (T1.setTop (mkF m 5 #[.val (.ref aV), .val (.int (1 : Int32))] [(.ref aV)]))
  refine own_back ?_ (fun t k => XS.iloadN X1.here hx rfl (hb hby d1_5) rfl k)
  show own_Go p e below PO (T1.setTop (mkF m 6 #[.val (.ref aV), .val (.int (1 : Int32))] [(.int (1 : Int32)), (.ref aV)]))
  obtain ⟨T2, h2, X2, e2, W2, st2⟩ := putFN X1 hx hZ hown (hw _ (List.mem_of_getElem? (i := 14) rfl)) Via.refl e1 F_V E_V (Or.inr ⟨(hw _ (List.mem_of_getElem? (i := 15) rfl)), rfl, hnm⟩) (hw _ (List.mem_of_getElem? (i := 1) rfl)) (ty := .boolean) (v' := (.int (1 : Int32))) (by decide) rfl (by decide) (g := (mkF m 6 #[.val (.ref aV), .val (.int (1 : Int32))] [(.int (1 : Int32)), (.ref aV)])) rfl rfl (hb hby d1_6)
  have Fw2 := F_V.same W2
  have f2_3 := E_V.wr W2
  have K2 : Keep h0 h2 [aV] := (Keep.refl h0 [aV]).wr W2 (Or.inl (by simp))
  have N2 := Fr.snoc X2 N1 gn_aV
  have Zh2 : n0 ≤ h2.size := Nat.le_trans Z0 K2.1
  refine own_back ?_ st2
  show own_Go p e below PO (T2.setTop (mkF m 9 #[.val (.ref aV), .val (.int (1 : Int32))] []))
  refine own_retV X2 hx Bd.returns (hb hby d1_9) e2 (Bd.notSynchronized) ?_ (by decide) (by decide)
  exact ⟨rfl, N2, K2, Fw2⟩
theorem ef_rmIni_0 (m : MethodId) (x0 : Addr) (x1 : Int32) : entryFrame m #[(.ref x0), (.int x1)] 2 = mkF m 0 #[.val (.ref x0), .val (.int x1)] [] := by first | (simp [entryFrame, mkF, argsToLocals, Value.category]; done) | rfl
def Q_rmIni_0 (Z : State) (aV : Addr) (h0 : Heap) (n0 : Nat) (v : Option Value) (h : Heap) (L : List Loc) : Prop := v = none ∧ Fr n0 L ∧ Keep h0 h [aV] ∧ Fld Z h aV "com/example/juncture/juncture/eval/BooleanValue" "value" "Z" (.int (0 : Int32))
set_option maxRecDepth 65536 in
set_option maxHeartbeats 40000000 in
theorem rmIni_0 (l : Launch) (Z : State) (a0 : Array Value) (hw : ∀ d ∈ tables_1, d.before a0 Z = true) (ws : List Jvm.Cond) (aV : Addr)  (h0 : Heap) (n0 : Nat) (Z0 : n0 ≤ h0.size) (E_V : Exa Z h0 aV "com/example/juncture/juncture/eval/BooleanValue") (F_V : Fld Z h0 aV "com/example/juncture/juncture/eval/BooleanValue" "value" "Z" (.int (0 : Int32))) (gn_aV : n0 ≤ aV) :
    MetFree l (⟨"com/example/juncture/juncture/eval/BooleanValue", "<init>", "(Z)V"⟩ : MethodName) (head1 (Jvm.Cond.code (⟨"com/example/juncture/juncture/eval/BooleanValue", "<init>", "(Z)V"⟩ : MethodName) prog_11_method_1_code 2 none :: ws) ({ frames := 2, cells := 0, slots := 0, locals := 24 } : Room)) (fun a U => a = #[(.ref aV), (.int (0 : Int32))] ∧ Z.Warmed39 U.vm ∧ U.heap = h0) (fun _ _ _ _ _ => True) (fun _ U o U' => ∃ v L, o = .returned v ∧ Q_rmIni_0 Z aV h0 n0 v U'.heap L ∧ FrameEnd U o U' L ({ frames := 2, cells := 0, slots := 0, locals := 24 } : Room).cells ({ frames := 2, cells := 0, slots := 0, locals := 24 } : Room).slots) := by
  refine MetFree.of_bodySF (plainFor_of_name pn_1) hisR ?_
  intro p e s m args below meth c s₁ Bd hml0 hP hK
  obtain ⟨rfl, hZ, hh⟩ := hP
  have hx := Bd.exec
  have hby := Bd.bytes
  have hml : c.maxLocals = 2 := hml0
  have hown : s.vm.findClass "com/example/juncture/juncture/eval/BooleanValue" = some m.cls := findClass_of_methodNamed Bd.named
  have hnm := (name_of_methodNamed Bd.named Bd.method).1
  have X0 : Stand p l e ({ frames := 2, cells := 0, slots := 0, locals := 24 } : Room) s m #[(.ref aV), (.int (0 : Int32))] below meth c s₁ [] 0 0 := Stand.of_body Bd
  have e0 : s₁.heap = h0 := by rw [← hh, Bd.state]; rfl
  have N0 := Fr.nil n0
  let PO : Outcome → State → Prop := own_PO s (Q_rmIni_0 Z aV h0 n0) 0 0
  show own_Go p e below PO (s₁.setTop (entryFrame m #[(.ref aV), (.int (0 : Int32))] 2))
  rw [ef_rmIni_0]
  show own_Go p e below PO (s₁.setTop (mkF m 0 #[.val (.ref aV), .val (.int (0 : Int32))] []))
  refine own_back ?_ (fun t k => XS.aloadN X0.here hx rfl (hb hby d1_0) rfl rfl k)
  show own_Go p e below PO (s₁.setTop (mkF m 1 #[.val (.ref aV), .val (.int (0 : Int32))] [(.ref aV)]))
  obtain ⟨_, _, ⟨T1, L1, k1, n1⟩, -, X1, ⟨Lc1, hQ1, l1, y1, z1⟩, st1⟩ := X0.specialBack hx (y := (⟨"java/lang/Record", "<init>", "()V"⟩ : MethodName)) rfl hown (mvT hZ (hw _ (List.mem_of_getElem? (i := 6) rfl))) (mvT hZ (hw _ (List.mem_of_getElem? (i := 7) rfl))) (mvT hZ (hw _ (List.mem_of_getElem? (i := 10) rfl))) (by decide) (backOf (W := 0) (rm2 l Z a0 hw [] aV  h0 n0 Z0 ) hZ (hw _ (List.mem_of_getElem? (i := 10) rfl)) (hw _ (List.mem_of_getElem? (i := 9) rfl)) (by decide) (by decide)) (g := (mkF m 1 #[.val (.ref aV), .val (.int (0 : Int32))] [(.ref aV)])) rfl (by rw [hml]; rfl) (Steps.refl _) (a := aV) (argsL := []) (rest := []) (lenOf pd_0 rfl) rfl (by show 2 * 0 + _ ≤ _; exact Nat.le_of_eq rfl) (hb hby d1_1) (fun _ _ => ⟨rfl, e0, (by decide : 0 + 0 ≤ _), (by decide : 0 + 0 ≤ _)⟩)
  dsimp only [Pt.U, Pt.locs, Pt.cells, Pt.slots] at X1 l1 y1 z1 st1 hQ1
  subst l1 y1 z1
  obtain ⟨rfl, N1q, e1⟩ := hQ1
  have N1 := Fr.app N0 N1q
  refine own_back ?_ (fun t k => st1.trans k)
  show own_Go p e below PO (T1.setTop (mkF m 4 #[.val (.ref aV), .val (.int (0 : Int32))] []))
  refine own_back ?_ (fun t k => XS.aloadN X1.here hx rfl (hb hby d1_4) rfl rfl k)
  show own_Go p e below PO (T1.setTop (mkF m 5 #[.val (.ref aV), .val (.int (0 : Int32))] [(.ref aV)]))
  refine own_back ?_ (fun t k => XS.iloadN X1.here hx rfl (hb hby d1_5) rfl k)
  show own_Go p e below PO (T1.setTop (mkF m 6 #[.val (.ref aV), .val (.int (0 : Int32))] [(.int (0 : Int32)), (.ref aV)]))
  obtain ⟨T2, h2, X2, e2, W2, st2⟩ := putFN X1 hx hZ hown (hw _ (List.mem_of_getElem? (i := 14) rfl)) Via.refl e1 F_V E_V (Or.inr ⟨(hw _ (List.mem_of_getElem? (i := 15) rfl)), rfl, hnm⟩) (hw _ (List.mem_of_getElem? (i := 1) rfl)) (ty := .boolean) (v' := (.int (0 : Int32))) (by decide) rfl (by decide) (g := (mkF m 6 #[.val (.ref aV), .val (.int (0 : Int32))] [(.int (0 : Int32)), (.ref aV)])) rfl rfl (hb hby d1_6)
  have Fw2 := F_V.same W2
  have f2_3 := E_V.wr W2
  have K2 : Keep h0 h2 [aV] := (Keep.refl h0 [aV]).wr W2 (Or.inl (by simp))
  have N2 := Fr.snoc X2 N1 gn_aV
  have Zh2 : n0 ≤ h2.size := Nat.le_trans Z0 K2.1
  refine own_back ?_ st2
  show own_Go p e below PO (T2.setTop (mkF m 9 #[.val (.ref aV), .val (.int (0 : Int32))] []))
  refine own_retV X2 hx Bd.returns (hb hby d1_9) e2 (Bd.notSynchronized) ?_ (by decide) (by decide)
  exact ⟨rfl, N2, K2, Fw2⟩
theorem d4_0 : decode prog_11_method_5_code 0 = .ok (.aload_n 0, 1) := by decide +kernel
theorem d4_1 : decode prog_11_method_5_code 1 = .ok (.getfield 7, 3) := by decide +kernel
theorem d4_4 : decode prog_11_method_5_code 4 = .ok (.ifCond .eq 8, 3) := by decide +kernel
theorem d4_7 : decode prog_11_method_5_code 7 = .ok (.ldc 32, 2) := by decide +kernel
theorem d4_9 : decode prog_11_method_5_code 9 = .ok (.goto 5, 3) := by decide +kernel
theorem d4_14 : decode prog_11_method_5_code 14 = .ok (.areturn, 1) := by decide +kernel
theorem ef_rmTS_1 (m : MethodId) (x0 : Addr) : entryFrame m #[(.ref x0)] 1 = mkF m 0 #[.val (.ref x0)] [] := by first | (simp [entryFrame, mkF, argsToLocals, Value.category]; done) | rfl
def Q_rmTS_1 (Z : State) (h0 : Heap) (n0 : Nat) (v : Option Value) (h : Heap) (L : List Loc) : Prop := ∃ (aS aB : Addr) (kB : ClassId), v = some (.ref aS) ∧ Fr n0 L ∧ Keep h0 h [] ∧ Exa Z h aS "java/lang/String" ∧ Fld Z h aS "java/lang/String" "coder" "B" (.int 0) ∧ Fld Z h aS "java/lang/String" "value" "[B" (.ref aB) ∧ Arv Z h aB kB .byte (4 : Int32) [(.int (84 : Int32)), (.int (82 : Int32)), (.int (85 : Int32)), (.int (69 : Int32))] (.int 0)
set_option maxRecDepth 65536 in
set_option maxHeartbeats 40000000 in
theorem rmTS_1 (l : Launch) (Z : State) (a0 : Array Value) (hw : ∀ d ∈ tables_1, d.before a0 Z = true) (ws : List Jvm.Cond) (aV : Addr)  (h0 : Heap) (n0 : Nat) (Z0 : n0 ≤ h0.size) (E_V : Exa Z h0 aV "com/example/juncture/juncture/eval/BooleanValue") (F_V : Fld Z h0 aV "com/example/juncture/juncture/eval/BooleanValue" "value" "Z" (.int (1 : Int32))) :
    MetFree l (⟨"com/example/juncture/juncture/eval/BooleanValue", "toString", "()Ljava/lang/String;"⟩ : MethodName) (head1 (Jvm.Cond.code (⟨"com/example/juncture/juncture/eval/BooleanValue", "toString", "()Ljava/lang/String;"⟩ : MethodName) prog_11_method_5_code 1 (some (.object "java/lang/String")) :: ws) ({ frames := 0, cells := 2, slots := 20, locals := 0 } : Room)) (fun a U => a = #[(.ref aV)] ∧ Z.Warmed39 U.vm ∧ U.heap = h0 ∧ CHv Z consts_1 U.vm h0) (fun _ _ _ _ _ => True) (fun _ U o U' => ∃ v L, o = .returned v ∧ Q_rmTS_1 Z h0 n0 v U'.heap L ∧ CHr Z consts_1 U.vm U.heap U'.vm U'.heap ∧ ReturnedEndW U o U' L ({ frames := 0, cells := 2, slots := 20, locals := 0 } : Room).cells ({ frames := 0, cells := 2, slots := 20, locals := 0 } : Room).slots) := by
  refine MetFree.of_bodySF (plainFor_of_name pn_1) hisR ?_
  intro p e s m args below meth c s₁ Bd hml0 hP hK
  obtain ⟨rfl, hZ, hh, hCH⟩ := hP
  have hx := Bd.exec
  have hby := Bd.bytes
  have hml : c.maxLocals = 1 := hml0
  have hown : s.vm.findClass "com/example/juncture/juncture/eval/BooleanValue" = some m.cls := findClass_of_methodNamed Bd.named
  have hnm := (name_of_methodNamed Bd.named Bd.method).1
  have X0 : Stand p l e ({ frames := 0, cells := 2, slots := 20, locals := 0 } : Room) s m #[(.ref aV)] below meth c s₁ [] 0 0 := Stand.of_body Bd
  have e0 : s₁.heap = h0 := by rw [← hh, Bd.state]; rfl
  have N0 := Fr.nil n0
  have hS0 : s.Since s.vm 0 := (State.WarmedH.refl s).since 0
  let PO : Outcome → State → Prop := own_POH Z consts_1 s (Q_rmTS_1 Z h0 n0) 2 20
  show own_Go p e below PO (s₁.setTop (entryFrame m #[(.ref aV)] 1))
  rw [ef_rmTS_1]
  show own_Go p e below PO (s₁.setTop (mkF m 0 #[.val (.ref aV)] []))
  refine own_back ?_ (fun t k => XS.aloadN X0.here hx rfl (hb hby d4_0) rfl rfl k)
  show own_Go p e below PO (s₁.setTop (mkF m 1 #[.val (.ref aV)] [(.ref aV)]))
  obtain ⟨T1, X1, e1, st1⟩ := getF X0 hx hZ hown (host := "") (Or.inl (hw _ (List.mem_of_getElem? (i := 14) rfl))) Via.refl e0 F_V (g := (mkF m 1 #[.val (.ref aV)] [(.ref aV)])) rfl rfl (hb hby d4_1)
  refine own_back ?_ st1
  show own_Go p e below PO (T1.setTop (mkF m 4 #[.val (.ref aV)] [(.int (1 : Int32))]))
  have hd4_2 : ¬ ((1 : Int32) = (0 : Int32)) := (by decide)
  refine own_back ?_ (fun t k => XS.ifNo X1.here hx rfl (hb hby d4_4) rfl ((if0 _ _).trans (feq hd4_2).1) k)
  show own_Go p e below PO (T1.setTop (mkF m 7 #[.val (.ref aV)] []))
  obtain ⟨aS, T3, h3, k3, aB, kB, X3, e3, E3, hS3, hk3, hZ, hown, Ex, Fc, Fv, Av, -, -, hC, -, -, st3⟩ := ldcCH (s := s) (vm0 := s.vm) X1 hx hZ hown (hw _ (List.mem_of_getElem? (i := 64) rfl)) (own_wS hw) e1 hS0 (Nat.zero_le _) (own_EW hw) (by simp [consts_1]) hCH (vs := [(.int (84 : Int32)), (.int (82 : Int32)), (.int (85 : Int32)), (.int (69 : Int32))]) (z := 4) ⟨by decide +kernel, by first | rfl | decide +kernel⟩ (by decide) (by decide) (g := (mkF m 7 #[.val (.ref aV)] [])) rfl (hb hby d4_7) (n := 16) (by decide) (by decide) (by decide) (by decide)
  have K3 : Keep h0 h3 [] := (Keep.refl h0 []).ext E3
  have Zh3 : n0 ≤ h3.size := Nat.le_trans Z0 K3.1
  refine own_back ?_ st3
  show own_Go p e below PO (T3.setTop (mkF m 9 #[.val (.ref aV)] [(.ref aS)]))
  refine own_back ?_ (fun t k => XS.goto X3.here hx rfl (pc0 := 9) (pc' := 14) rfl (hb hby d4_9) (by decide) (by decide) k)
  show own_Go p e below PO (T3.setTop (mkF m 14 #[.val (.ref aV)] [(.ref aS)]))
  refine own_retAH X3 hx (w := (.ref aS)) (rest := []) Bd.returns rfl rfl (hb hby d4_14) e3 (Bd.notSynchronized) ?_ (by decide) (by decide) (s := s) (vm0 := T3.vm) hS3 hk3 (by rw [hh]; exact hC)
  exact ⟨aS, aB, kB, rfl, N0, K3, Ex, Fc, Fv, Av⟩
theorem d4_12 : decode prog_11_method_5_code 12 = .ok (.ldc 33, 2) := by decide +kernel
theorem ef_rmTS_0 (m : MethodId) (x0 : Addr) : entryFrame m #[(.ref x0)] 1 = mkF m 0 #[.val (.ref x0)] [] := by first | (simp [entryFrame, mkF, argsToLocals, Value.category]; done) | rfl
def Q_rmTS_0 (Z : State) (h0 : Heap) (n0 : Nat) (v : Option Value) (h : Heap) (L : List Loc) : Prop := ∃ (aS aB : Addr) (kB : ClassId), v = some (.ref aS) ∧ Fr n0 L ∧ Keep h0 h [] ∧ Exa Z h aS "java/lang/String" ∧ Fld Z h aS "java/lang/String" "coder" "B" (.int 0) ∧ Fld Z h aS "java/lang/String" "value" "[B" (.ref aB) ∧ Arv Z h aB kB .byte (5 : Int32) [(.int (70 : Int32)), (.int (65 : Int32)), (.int (76 : Int32)), (.int (83 : Int32)), (.int (69 : Int32))] (.int 0)
set_option maxRecDepth 65536 in
set_option maxHeartbeats 40000000 in
theorem rmTS_0 (l : Launch) (Z : State) (a0 : Array Value) (hw : ∀ d ∈ tables_1, d.before a0 Z = true) (ws : List Jvm.Cond) (aV : Addr)  (h0 : Heap) (n0 : Nat) (Z0 : n0 ≤ h0.size) (E_V : Exa Z h0 aV "com/example/juncture/juncture/eval/BooleanValue") (F_V : Fld Z h0 aV "com/example/juncture/juncture/eval/BooleanValue" "value" "Z" (.int (0 : Int32))) :
    MetFree l (⟨"com/example/juncture/juncture/eval/BooleanValue", "toString", "()Ljava/lang/String;"⟩ : MethodName) (head1 (Jvm.Cond.code (⟨"com/example/juncture/juncture/eval/BooleanValue", "toString", "()Ljava/lang/String;"⟩ : MethodName) prog_11_method_5_code 1 (some (.object "java/lang/String")) :: ws) ({ frames := 0, cells := 2, slots := 24, locals := 0 } : Room)) (fun a U => a = #[(.ref aV)] ∧ Z.Warmed39 U.vm ∧ U.heap = h0 ∧ CHv Z consts_1 U.vm h0) (fun _ _ _ _ _ => True) (fun _ U o U' => ∃ v L, o = .returned v ∧ Q_rmTS_0 Z h0 n0 v U'.heap L ∧ CHr Z consts_1 U.vm U.heap U'.vm U'.heap ∧ ReturnedEndW U o U' L ({ frames := 0, cells := 2, slots := 24, locals := 0 } : Room).cells ({ frames := 0, cells := 2, slots := 24, locals := 0 } : Room).slots) := by
  refine MetFree.of_bodySF (plainFor_of_name pn_1) hisR ?_
  intro p e s m args below meth c s₁ Bd hml0 hP hK
  obtain ⟨rfl, hZ, hh, hCH⟩ := hP
  have hx := Bd.exec
  have hby := Bd.bytes
  have hml : c.maxLocals = 1 := hml0
  have hown : s.vm.findClass "com/example/juncture/juncture/eval/BooleanValue" = some m.cls := findClass_of_methodNamed Bd.named
  have hnm := (name_of_methodNamed Bd.named Bd.method).1
  have X0 : Stand p l e ({ frames := 0, cells := 2, slots := 24, locals := 0 } : Room) s m #[(.ref aV)] below meth c s₁ [] 0 0 := Stand.of_body Bd
  have e0 : s₁.heap = h0 := by rw [← hh, Bd.state]; rfl
  have N0 := Fr.nil n0
  have hS0 : s.Since s.vm 0 := (State.WarmedH.refl s).since 0
  let PO : Outcome → State → Prop := own_POH Z consts_1 s (Q_rmTS_0 Z h0 n0) 2 24
  show own_Go p e below PO (s₁.setTop (entryFrame m #[(.ref aV)] 1))
  rw [ef_rmTS_0]
  show own_Go p e below PO (s₁.setTop (mkF m 0 #[.val (.ref aV)] []))
  refine own_back ?_ (fun t k => XS.aloadN X0.here hx rfl (hb hby d4_0) rfl rfl k)
  show own_Go p e below PO (s₁.setTop (mkF m 1 #[.val (.ref aV)] [(.ref aV)]))
  obtain ⟨T1, X1, e1, st1⟩ := getF X0 hx hZ hown (host := "") (Or.inl (hw _ (List.mem_of_getElem? (i := 14) rfl))) Via.refl e0 F_V (g := (mkF m 1 #[.val (.ref aV)] [(.ref aV)])) rfl rfl (hb hby d4_1)
  refine own_back ?_ st1
  show own_Go p e below PO (T1.setTop (mkF m 4 #[.val (.ref aV)] [(.int (0 : Int32))]))
  refine own_back ?_ (fun t k => XS.ifYes X1.here hx rfl (pc0 := 4) (pc' := 12) rfl (hb hby d4_4) rfl ((if0 _ _).trans (teq rfl).1) (by decide) (by decide) k)
  show own_Go p e below PO (T1.setTop (mkF m 12 #[.val (.ref aV)] []))
  obtain ⟨aS, T2, h2, k2, aB, kB, X2, e2, E2, hS2, hk2, hZ, hown, Ex, Fc, Fv, Av, -, -, hC, -, -, st2⟩ := ldcCH (s := s) (vm0 := s.vm) X1 hx hZ hown (hw _ (List.mem_of_getElem? (i := 21) rfl)) (own_wS hw) e1 hS0 (Nat.zero_le _) (own_EW hw) (by simp [consts_1]) hCH (vs := [(.int (70 : Int32)), (.int (65 : Int32)), (.int (76 : Int32)), (.int (83 : Int32)), (.int (69 : Int32))]) (z := 5) ⟨by decide +kernel, by first | rfl | decide +kernel⟩ (by decide) (by decide) (g := (mkF m 12 #[.val (.ref aV)] [])) rfl (hb hby d4_12) (n := 20) (by decide) (by decide) (by decide) (by decide)
  have K2 : Keep h0 h2 [] := (Keep.refl h0 []).ext E2
  have Zh2 : n0 ≤ h2.size := Nat.le_trans Z0 K2.1
  refine own_back ?_ st2
  show own_Go p e below PO (T2.setTop (mkF m 14 #[.val (.ref aV)] [(.ref aS)]))
  refine own_retAH X2 hx (w := (.ref aS)) (rest := []) Bd.returns rfl rfl (hb hby d4_14) e2 (Bd.notSynchronized) ?_ (by decide) (by decide) (s := s) (vm0 := T2.vm) hS2 hk2 (by rw [hh]; exact hC)
  exact ⟨aS, aB, kB, rfl, N0, K2, Ex, Fc, Fv, Av⟩
theorem d6_0 : decode jdk_42_method_152_code 0 = .ok (.getstatic 38, 3) := by decide +kernel
theorem d6_3 : decode jdk_42_method_152_code 3 = .ok (.ifCond .eq 10, 3) := by decide +kernel
theorem d6_6 : decode jdk_42_method_152_code 6 = .ok (.aload_n 0, 1) := by decide +kernel
theorem d6_7 : decode jdk_42_method_152_code 7 = .ok (.getfield 15, 3) := by decide +kernel
theorem d6_10 : decode jdk_42_method_152_code 10 = .ok (.goto 4, 3) := by decide +kernel
theorem d6_14 : decode jdk_42_method_152_code 14 = .ok (.ireturn, 1) := by decide +kernel
theorem pn_2 : plainName "java/lang/String" = true := by first | (simp [plainName, overriddenIn]; done) | decide +kernel
theorem ef_rm6 (m : MethodId) (x0 : Addr) : entryFrame m #[(.ref x0)] 1 = mkF m 0 #[.val (.ref x0)] [] := by first | (simp [entryFrame, mkF, argsToLocals, Value.category]; done) | rfl
def Q_rm6 (h0 : Heap) (n0 : Nat) (v : Option Value) (h : Heap) (L : List Loc) : Prop := v = some (.int 0) ∧ Fr n0 L ∧ h = h0
set_option maxRecDepth 65536 in
set_option maxHeartbeats 40000000 in
theorem rm6 (l : Launch) (Z : State) (a0 : Array Value) (hw : ∀ d ∈ tables_1, d.before a0 Z = true) (ws : List Jvm.Cond) (aS : Addr) (zC : Int32) (h0 : Heap) (n0 : Nat) (Z0 : n0 ≤ h0.size) (F_c : Fld Z h0 aS "java/lang/String" "coder" "B" (.int 0)) (S_C : Sta Z h0 "java/lang/String" "COMPACT_STRINGS" "Z" (.int zC)) (nzC : ¬ zC = (0 : Int32)) :
    MetFree l (⟨"java/lang/String", "coder", "()B"⟩ : MethodName) (head1 (Jvm.Cond.code (⟨"java/lang/String", "coder", "()B"⟩ : MethodName) jdk_42_method_152_code 1 (some .byte) :: ws) ({ frames := 0, cells := 0, slots := 0, locals := 0 } : Room)) (fun a U => a = #[(.ref aS)] ∧ Z.Warmed39 U.vm ∧ U.heap = h0) (fun _ _ _ _ _ => True) (fun _ U o U' => ∃ v L, o = .returned v ∧ Q_rm6 h0 n0 v U'.heap L ∧ FrameEnd U o U' L ({ frames := 0, cells := 0, slots := 0, locals := 0 } : Room).cells ({ frames := 0, cells := 0, slots := 0, locals := 0 } : Room).slots) := by
  refine MetFree.of_bodySF (plainFor_of_name pn_2) hisR ?_
  intro p e s m args below meth c s₁ Bd hml0 hP hK
  obtain ⟨rfl, hZ, hh⟩ := hP
  have hx := Bd.exec
  have hby := Bd.bytes
  have hml : c.maxLocals = 1 := hml0
  have hown : s.vm.findClass "java/lang/String" = some m.cls := findClass_of_methodNamed Bd.named
  have hnm := (name_of_methodNamed Bd.named Bd.method).1
  have X0 : Stand p l e ({ frames := 0, cells := 0, slots := 0, locals := 0 } : Room) s m #[(.ref aS)] below meth c s₁ [] 0 0 := Stand.of_body Bd
  have e0 : s₁.heap = h0 := by rw [← hh, Bd.state]; rfl
  have N0 := Fr.nil n0
  let PO : Outcome → State → Prop := own_PO s (Q_rm6 h0 n0) 0 0
  show own_Go p e below PO (s₁.setTop (entryFrame m #[(.ref aS)] 1))
  rw [ef_rm6]
  show own_Go p e below PO (s₁.setTop (mkF m 0 #[.val (.ref aS)] []))
  obtain ⟨T1, X1, e1, st1⟩ := getS2 X0 hx hZ hown (host := "") (Or.inl (hw _ (List.mem_of_getElem? (i := 40) rfl))) Via.refl e0 S_C (g := (mkF m 0 #[.val (.ref aS)] [])) rfl (hb hby d6_0)
  refine own_back ?_ st1
  show own_Go p e below PO (T1.setTop (mkF m 3 #[.val (.ref aS)] [(.int zC)]))
  refine own_back ?_ (fun t k => XS.ifNo X1.here hx rfl (hb hby d6_3) rfl ((if0 _ _).trans (feq nzC).1) k)
  show own_Go p e below PO (T1.setTop (mkF m 6 #[.val (.ref aS)] []))
  refine own_back ?_ (fun t k => XS.aloadN X1.here hx rfl (hb hby d6_6) rfl rfl k)
  show own_Go p e below PO (T1.setTop (mkF m 7 #[.val (.ref aS)] [(.ref aS)]))
  obtain ⟨T2, X2, e2, st2⟩ := getF X1 hx hZ hown (host := "") (Or.inl (hw _ (List.mem_of_getElem? (i := 41) rfl))) Via.refl e1 F_c (g := (mkF m 7 #[.val (.ref aS)] [(.ref aS)])) rfl rfl (hb hby d6_7)
  refine own_back ?_ st2
  show own_Go p e below PO (T2.setTop (mkF m 10 #[.val (.ref aS)] [(.int (0 : Int32))]))
  refine own_back ?_ (fun t k => XS.goto X2.here hx rfl (pc0 := 10) (pc' := 14) rfl (hb hby d6_10) (by decide) (by decide) k)
  show own_Go p e below PO (T2.setTop (mkF m 14 #[.val (.ref aS)] [(.int (0 : Int32))]))
  refine own_retN X2 hx (t := .byte) (rest := []) Bd.returns (by decide) (by simp) (hb hby d6_14) e2 (Bd.notSynchronized) ?_ (by decide) (by decide)
  exact ⟨by first | rfl | decide, N0, rfl⟩
theorem d8_0 : decode jdk_42_method_154_code 0 = .ok (.getstatic 38, 3) := by decide +kernel
theorem d8_3 : decode jdk_42_method_154_code 3 = .ok (.ifCond .eq 14, 3) := by decide +kernel
theorem d8_6 : decode jdk_42_method_154_code 6 = .ok (.aload_n 0, 1) := by decide +kernel
theorem d8_7 : decode jdk_42_method_154_code 7 = .ok (.getfield 15, 3) := by decide +kernel
theorem d8_10 : decode jdk_42_method_154_code 10 = .ok (.ifCond .ne 7, 3) := by decide +kernel
theorem d8_13 : decode jdk_42_method_154_code 13 = .ok (.iconst 1, 1) := by decide +kernel
theorem d8_14 : decode jdk_42_method_154_code 14 = .ok (.goto 4, 3) := by decide +kernel
theorem d8_18 : decode jdk_42_method_154_code 18 = .ok (.ireturn, 1) := by decide +kernel
theorem ef_rm8 (m : MethodId) (x0 : Addr) : entryFrame m #[(.ref x0)] 1 = mkF m 0 #[.val (.ref x0)] [] := by first | (simp [entryFrame, mkF, argsToLocals, Value.category]; done) | rfl
def Q_rm8 (h0 : Heap) (n0 : Nat) (v : Option Value) (h : Heap) (L : List Loc) : Prop := v = some (.int 1) ∧ Fr n0 L ∧ h = h0
set_option maxRecDepth 65536 in
set_option maxHeartbeats 40000000 in
theorem rm8 (l : Launch) (Z : State) (a0 : Array Value) (hw : ∀ d ∈ tables_1, d.before a0 Z = true) (ws : List Jvm.Cond) (aS : Addr) (zC : Int32) (h0 : Heap) (n0 : Nat) (Z0 : n0 ≤ h0.size) (F_c : Fld Z h0 aS "java/lang/String" "coder" "B" (.int 0)) (S_C : Sta Z h0 "java/lang/String" "COMPACT_STRINGS" "Z" (.int zC)) (nzC : ¬ zC = (0 : Int32)) :
    MetFree l (⟨"java/lang/String", "isLatin1", "()Z"⟩ : MethodName) (head1 (Jvm.Cond.code (⟨"java/lang/String", "isLatin1", "()Z"⟩ : MethodName) jdk_42_method_154_code 1 (some .boolean) :: ws) ({ frames := 0, cells := 0, slots := 0, locals := 0 } : Room)) (fun a U => a = #[(.ref aS)] ∧ Z.Warmed39 U.vm ∧ U.heap = h0) (fun _ _ _ _ _ => True) (fun _ U o U' => ∃ v L, o = .returned v ∧ Q_rm8 h0 n0 v U'.heap L ∧ FrameEnd U o U' L ({ frames := 0, cells := 0, slots := 0, locals := 0 } : Room).cells ({ frames := 0, cells := 0, slots := 0, locals := 0 } : Room).slots) := by
  refine MetFree.of_bodySF (plainFor_of_name pn_2) hisR ?_
  intro p e s m args below meth c s₁ Bd hml0 hP hK
  obtain ⟨rfl, hZ, hh⟩ := hP
  have hx := Bd.exec
  have hby := Bd.bytes
  have hml : c.maxLocals = 1 := hml0
  have hown : s.vm.findClass "java/lang/String" = some m.cls := findClass_of_methodNamed Bd.named
  have hnm := (name_of_methodNamed Bd.named Bd.method).1
  have X0 : Stand p l e ({ frames := 0, cells := 0, slots := 0, locals := 0 } : Room) s m #[(.ref aS)] below meth c s₁ [] 0 0 := Stand.of_body Bd
  have e0 : s₁.heap = h0 := by rw [← hh, Bd.state]; rfl
  have N0 := Fr.nil n0
  let PO : Outcome → State → Prop := own_PO s (Q_rm8 h0 n0) 0 0
  show own_Go p e below PO (s₁.setTop (entryFrame m #[(.ref aS)] 1))
  rw [ef_rm8]
  show own_Go p e below PO (s₁.setTop (mkF m 0 #[.val (.ref aS)] []))
  obtain ⟨T1, X1, e1, st1⟩ := getS2 X0 hx hZ hown (host := "") (Or.inl (hw _ (List.mem_of_getElem? (i := 40) rfl))) Via.refl e0 S_C (g := (mkF m 0 #[.val (.ref aS)] [])) rfl (hb hby d8_0)
  refine own_back ?_ st1
  show own_Go p e below PO (T1.setTop (mkF m 3 #[.val (.ref aS)] [(.int zC)]))
  refine own_back ?_ (fun t k => XS.ifNo X1.here hx rfl (hb hby d8_3) rfl ((if0 _ _).trans (feq nzC).1) k)
  show own_Go p e below PO (T1.setTop (mkF m 6 #[.val (.ref aS)] []))
  refine own_back ?_ (fun t k => XS.aloadN X1.here hx rfl (hb hby d8_6) rfl rfl k)
  show own_Go p e below PO (T1.setTop (mkF m 7 #[.val (.ref aS)] [(.ref aS)]))
  obtain ⟨T2, X2, e2, st2⟩ := getF X1 hx hZ hown (host := "") (Or.inl (hw _ (List.mem_of_getElem? (i := 41) rfl))) Via.refl e1 F_c (g := (mkF m 7 #[.val (.ref aS)] [(.ref aS)])) rfl rfl (hb hby d8_7)
  refine own_back ?_ st2
  show own_Go p e below PO (T2.setTop (mkF m 10 #[.val (.ref aS)] [(.int (0 : Int32))]))
  refine own_back ?_ (fun t k => XS.ifNo X2.here hx rfl (hb hby d8_10) rfl ((if0 _ _).trans (teq rfl).2) k)
  show own_Go p e below PO (T2.setTop (mkF m 13 #[.val (.ref aS)] []))
  refine own_back ?_ (fun t k => XS.iconst X2.here hx rfl (hb hby d8_13) k)
  show own_Go p e below PO (T2.setTop (mkF m 14 #[.val (.ref aS)] [(.int (1 : Int32))]))
  refine own_back ?_ (fun t k => XS.goto X2.here hx rfl (pc0 := 14) (pc' := 18) rfl (hb hby d8_14) (by decide) (by decide) k)
  show own_Go p e below PO (T2.setTop (mkF m 18 #[.val (.ref aS)] [(.int (1 : Int32))]))
  refine own_retN X2 hx (t := .boolean) (rest := []) Bd.returns (by decide) (by simp) (hb hby d8_18) e2 (Bd.notSynchronized) ?_ (by decide) (by decide)
  exact ⟨by first | rfl | decide, N0, rfl⟩
theorem d11_0 : decode jdk_41_method_11_code 0 = .ok (.iload_n 0, 1) := by decide +kernel
theorem d11_1 : decode jdk_41_method_11_code 1 = .ok (.ifCond .lt 8, 3) := by decide +kernel
theorem d11_4 : decode jdk_41_method_11_code 4 = .ok (.iload_n 0, 1) := by decide +kernel
theorem d11_5 : decode jdk_41_method_11_code 5 = .ok (.iload_n 1, 1) := by decide +kernel
theorem d11_6 : decode jdk_41_method_11_code 6 = .ok (.if_icmp .lt 10, 3) := by decide +kernel
theorem d11_16 : decode jdk_41_method_11_code 16 = .ok (.iload_n 0, 1) := by decide +kernel
theorem d11_17 : decode jdk_41_method_11_code 17 = .ok (.ireturn, 1) := by decide +kernel
theorem pn_3 : plainName "jdk/internal/util/Preconditions" = true := by first | (simp [plainName, overriddenIn]; done) | decide +kernel
theorem ef_rmPre_n (m : MethodId) (x0 : Int32) (x1 : Int32) : entryFrame m #[(.int x0), (.int x1), .null] 3 = mkF m 0 #[.val (.int x0), .val (.int x1), .val .null] [] := by first | (simp [entryFrame, mkF, argsToLocals, Value.category]; done) | rfl
def Q_rmPre_n (pI : Int32) (h0 : Heap) (n0 : Nat) (v : Option Value) (h : Heap) (L : List Loc) : Prop := v = some (.int pI) ∧ Fr n0 L ∧ h = h0
set_option maxRecDepth 65536 in
set_option maxHeartbeats 40000000 in
theorem rmPre_n (l : Launch) (Z : State) (a0 : Array Value) (hw : ∀ d ∈ tables_1, d.before a0 Z = true) (ws : List Jvm.Cond) (pI : Int32) (pN : Int32)  (h0 : Heap) (n0 : Nat) (Z0 : n0 ≤ h0.size) (hI : ¬ pI < (0 : Int32)) (hN : pI < pN) :
    MetFree l (⟨"jdk/internal/util/Preconditions", "checkIndex", "(IILjava/util/function/BiFunction;)I"⟩ : MethodName) (head1 (Jvm.Cond.code (⟨"jdk/internal/util/Preconditions", "checkIndex", "(IILjava/util/function/BiFunction;)I"⟩ : MethodName) jdk_41_method_11_code 3 (some .int) :: ws) ({ frames := 0, cells := 0, slots := 0, locals := 0 } : Room)) (fun a U => a = #[(.int pI), (.int pN), .null] ∧ Z.Warmed39 U.vm ∧ U.heap = h0) (fun _ _ _ _ _ => True) (fun _ U o U' => ∃ v L, o = .returned v ∧ Q_rmPre_n pI h0 n0 v U'.heap L ∧ FrameEnd U o U' L ({ frames := 0, cells := 0, slots := 0, locals := 0 } : Room).cells ({ frames := 0, cells := 0, slots := 0, locals := 0 } : Room).slots) := by
  refine MetFree.of_bodySF (plainFor_of_name pn_3) hisR ?_
  intro p e s m args below meth c s₁ Bd hml0 hP hK
  obtain ⟨rfl, hZ, hh⟩ := hP
  have hx := Bd.exec
  have hby := Bd.bytes
  have hml : c.maxLocals = 3 := hml0
  have hown : s.vm.findClass "jdk/internal/util/Preconditions" = some m.cls := findClass_of_methodNamed Bd.named
  have hnm := (name_of_methodNamed Bd.named Bd.method).1
  have X0 : Stand p l e ({ frames := 0, cells := 0, slots := 0, locals := 0 } : Room) s m #[(.int pI), (.int pN), .null] below meth c s₁ [] 0 0 := Stand.of_body Bd
  have e0 : s₁.heap = h0 := by rw [← hh, Bd.state]; rfl
  have N0 := Fr.nil n0
  let PO : Outcome → State → Prop := own_PO s (Q_rmPre_n pI h0 n0) 0 0
  show own_Go p e below PO (s₁.setTop (entryFrame m #[(.int pI), (.int pN), .null] 3))
  rw [ef_rmPre_n]
  show own_Go p e below PO (s₁.setTop (mkF m 0 #[.val (.int pI), .val (.int pN), .val .null] []))
  refine own_back ?_ (fun t k => XS.iloadN X0.here hx rfl (hb hby d11_0) rfl k)
  show own_Go p e below PO (s₁.setTop (mkF m 1 #[.val (.int pI), .val (.int pN), .val .null] [(.int pI)]))
  refine own_back ?_ (fun t k => XS.ifNo X0.here hx rfl (hb hby d11_1) rfl ((if0 _ _).trans (flt hI).1) k)
  show own_Go p e below PO (s₁.setTop (mkF m 4 #[.val (.int pI), .val (.int pN), .val .null] []))
  refine own_back ?_ (fun t k => XS.iloadN X0.here hx rfl (hb hby d11_4) rfl k)
  show own_Go p e below PO (s₁.setTop (mkF m 5 #[.val (.int pI), .val (.int pN), .val .null] [(.int pI)]))
  refine own_back ?_ (fun t k => XS.iloadN X0.here hx rfl (hb hby d11_5) rfl k)
  show own_Go p e below PO (s₁.setTop (mkF m 6 #[.val (.int pI), .val (.int pN), .val .null] [(.int pN), (.int pI)]))
  refine own_back ?_ (fun t k => XS.icmpYes X0.here hx rfl (pc0 := 6) (pc' := 16) rfl (hb hby d11_6) rfl (tlt hN).1 (by decide) (by decide) k)
  show own_Go p e below PO (s₁.setTop (mkF m 16 #[.val (.int pI), .val (.int pN), .val .null] []))
  refine own_back ?_ (fun t k => XS.iloadN X0.here hx rfl (hb hby d11_16) rfl k)
  show own_Go p e below PO (s₁.setTop (mkF m 17 #[.val (.int pI), .val (.int pN), .val .null] [(.int pI)]))
  refine own_retI X0 hx (rest := []) Bd.returns (hb hby d11_17) e0 (Bd.notSynchronized) ?_ (by decide) (by decide)
  exact ⟨by first | rfl | decide, N0, rfl⟩
theorem pd_1 : parseMethodDescriptor "(IILjava/util/function/BiFunction;)I" = some ⟨[.int, .int, (.object "java/util/function/BiFunction")], some .int⟩ := by decide +kernel
theorem d10_0 : decode jdk_42_method_155_code 0 = .ok (.iload_n 0, 1) := by decide +kernel
theorem d10_1 : decode jdk_42_method_155_code 1 = .ok (.iload_n 1, 1) := by decide +kernel
theorem d10_2 : decode jdk_42_method_155_code 2 = .ok (.getstatic 1053, 3) := by decide +kernel
theorem d10_5 : decode jdk_42_method_155_code 5 = .ok (.invokestatic 1059, 3) := by decide +kernel
theorem d10_8 : decode jdk_42_method_155_code 8 = .ok (.pop, 1) := by decide +kernel
theorem d10_9 : decode jdk_42_method_155_code 9 = .ok (.return_, 1) := by decide +kernel
theorem ef_rmCI_n (m : MethodId) (x0 : Int32) (x1 : Int32) : entryFrame m #[(.int x0), (.int x1)] 2 = mkF m 0 #[.val (.int x0), .val (.int x1)] [] := by first | (simp [entryFrame, mkF, argsToLocals, Value.category]; done) | rfl
def Q_rmCI_n (h0 : Heap) (n0 : Nat) (v : Option Value) (h : Heap) (L : List Loc) : Prop := v = none ∧ Fr n0 L ∧ h = h0
set_option maxRecDepth 65536 in
set_option maxHeartbeats 40000000 in
theorem rmCI_n (l : Launch) (Z : State) (a0 : Array Value) (hw : ∀ d ∈ tables_1, d.before a0 Z = true) (ws : List Jvm.Cond) (pI : Int32) (pN : Int32)  (h0 : Heap) (n0 : Nat) (Z0 : n0 ≤ h0.size) (S_F : Sta Z h0 "jdk/internal/util/Preconditions" "SIOOBE_FORMATTER" "Ljava/util/function/BiFunction;" .null) (hI : ¬ pI < (0 : Int32)) (hN : pI < pN) :
    MetFree l (⟨"java/lang/String", "checkIndex", "(II)V"⟩ : MethodName) (head1 (Jvm.Cond.code (⟨"java/lang/String", "checkIndex", "(II)V"⟩ : MethodName) jdk_42_method_155_code 2 none :: ws) ({ frames := 1, cells := 0, slots := 0, locals := 14 } : Room)) (fun a U => a = #[(.int pI), (.int pN)] ∧ Z.Warmed39 U.vm ∧ U.heap = h0) (fun _ _ _ _ _ => True) (fun _ U o U' => ∃ v L, o = .returned v ∧ Q_rmCI_n h0 n0 v U'.heap L ∧ FrameEnd U o U' L ({ frames := 1, cells := 0, slots := 0, locals := 14 } : Room).cells ({ frames := 1, cells := 0, slots := 0, locals := 14 } : Room).slots) := by
  refine MetFree.of_bodySF (plainFor_of_name pn_2) hisR ?_
  intro p e s m args below meth c s₁ Bd hml0 hP hK
  obtain ⟨rfl, hZ, hh⟩ := hP
  have hx := Bd.exec
  have hby := Bd.bytes
  have hml : c.maxLocals = 2 := hml0
  have hown : s.vm.findClass "java/lang/String" = some m.cls := findClass_of_methodNamed Bd.named
  have hnm := (name_of_methodNamed Bd.named Bd.method).1
  have X0 : Stand p l e ({ frames := 1, cells := 0, slots := 0, locals := 14 } : Room) s m #[(.int pI), (.int pN)] below meth c s₁ [] 0 0 := Stand.of_body Bd
  have e0 : s₁.heap = h0 := by rw [← hh, Bd.state]; rfl
  have N0 := Fr.nil n0
  let PO : Outcome → State → Prop := own_PO s (Q_rmCI_n h0 n0) 0 0
  show own_Go p e below PO (s₁.setTop (entryFrame m #[(.int pI), (.int pN)] 2))
  rw [ef_rmCI_n]
  show own_Go p e below PO (s₁.setTop (mkF m 0 #[.val (.int pI), .val (.int pN)] []))
  refine own_back ?_ (fun t k => XS.iloadN X0.here hx rfl (hb hby d10_0) rfl k)
  show own_Go p e below PO (s₁.setTop (mkF m 1 #[.val (.int pI), .val (.int pN)] [(.int pI)]))
  refine own_back ?_ (fun t k => XS.iloadN X0.here hx rfl (hb hby d10_1) rfl k)
  show own_Go p e below PO (s₁.setTop (mkF m 2 #[.val (.int pI), .val (.int pN)] [(.int pN), (.int pI)]))
  obtain ⟨T1, X1, e1, st1⟩ := getS2 X0 hx hZ hown (host := "") (Or.inl (hw _ (List.mem_of_getElem? (i := 59) rfl))) Via.refl e0 S_F (g := (mkF m 2 #[.val (.int pI), .val (.int pN)] [(.int pN), (.int pI)])) rfl (hb hby d10_2)
  refine own_back ?_ st1
  show own_Go p e below PO (T1.setTop (mkF m 5 #[.val (.int pI), .val (.int pN)] [.null, (.int pN), (.int pI)]))
  obtain ⟨_, _, ⟨T2, L2, k2, n2⟩, -, X2, ⟨Lc2, hQ2, l2, y2, z2⟩, st2⟩ := Jvm.LawKit.callS X1 hx (y := (⟨"jdk/internal/util/Preconditions", "checkIndex", "(IILjava/util/function/BiFunction;)I"⟩ : MethodName)) hown (mvT hZ (hw _ (List.mem_of_getElem? (i := 61) rfl))) (mvT hZ (hw _ (List.mem_of_getElem? (i := 62) rfl))) (mvT hZ (hw _ (List.mem_of_getElem? (i := 60) rfl))) (mvT hZ (hw _ (List.mem_of_getElem? (i := 63) rfl))) (by decide) (backOf (W := 0) (rmPre_n l Z a0 hw [] pI pN  h0 n0 Z0 hI hN) hZ (hw _ (List.mem_of_getElem? (i := 63) rfl)) (hw _ (List.mem_of_getElem? (i := 60) rfl)) (by decide) (by decide)) (g := (mkF m 5 #[.val (.int pI), .val (.int pN)] [.null, (.int pN), (.int pI)])) rfl (by rw [hml]; rfl) (argsL := [(.int pI), (.int pN), .null]) (rest := []) (lenOf pd_1 rfl) rfl (by show 2 * 0 + _ ≤ _; exact Nat.le_of_eq rfl) (hb hby d10_5) (fun _ _ => ⟨rfl, e1, (by decide : 0 + 0 ≤ _), (by decide : 0 + 0 ≤ _)⟩)
  dsimp only [Pt.U, Pt.locs, Pt.cells, Pt.slots] at X2 l2 y2 z2 st2 hQ2
  subst l2 y2 z2
  obtain ⟨rfl, N2q, e2⟩ := hQ2
  have N2 := Fr.app N0 N2q
  refine own_back ?_ st2
  show own_Go p e below PO (T2.setTop (mkF m 8 #[.val (.int pI), .val (.int pN)] [(.int pI)]))
  refine own_back ?_ (fun t k => XS.pop X2.here hx rfl (hb hby d10_8) rfl rfl k)
  show own_Go p e below PO (T2.setTop (mkF m 9 #[.val (.int pI), .val (.int pN)] []))
  refine own_retV X2 hx Bd.returns (hb hby d10_9) e2 (Bd.notSynchronized) ?_ (by decide) (by decide)
  exact ⟨by first | rfl | decide, N2, rfl⟩
theorem ef_rmPre_r (m : MethodId) (x0 : Int32) (x1 : Int32) (x2 : Addr) : entryFrame m #[(.int x0), (.int x1), (.ref x2)] 3 = mkF m 0 #[.val (.int x0), .val (.int x1), .val (.ref x2)] [] := by first | (simp [entryFrame, mkF, argsToLocals, Value.category]; done) | rfl
def Q_rmPre_r (pI : Int32) (h0 : Heap) (n0 : Nat) (v : Option Value) (h : Heap) (L : List Loc) : Prop := v = some (.int pI) ∧ Fr n0 L ∧ h = h0
set_option maxRecDepth 65536 in
set_option maxHeartbeats 40000000 in
theorem rmPre_r (l : Launch) (Z : State) (a0 : Array Value) (hw : ∀ d ∈ tables_1, d.before a0 Z = true) (ws : List Jvm.Cond) (pI : Int32) (pN : Int32) (aF : Addr)  (h0 : Heap) (n0 : Nat) (Z0 : n0 ≤ h0.size) (hI : ¬ pI < (0 : Int32)) (hN : pI < pN) :
    MetFree l (⟨"jdk/internal/util/Preconditions", "checkIndex", "(IILjava/util/function/BiFunction;)I"⟩ : MethodName) (head1 (Jvm.Cond.code (⟨"jdk/internal/util/Preconditions", "checkIndex", "(IILjava/util/function/BiFunction;)I"⟩ : MethodName) jdk_41_method_11_code 3 (some .int) :: ws) ({ frames := 0, cells := 0, slots := 0, locals := 0 } : Room)) (fun a U => a = #[(.int pI), (.int pN), (.ref aF)] ∧ Z.Warmed39 U.vm ∧ U.heap = h0) (fun _ _ _ _ _ => True) (fun _ U o U' => ∃ v L, o = .returned v ∧ Q_rmPre_r pI h0 n0 v U'.heap L ∧ FrameEnd U o U' L ({ frames := 0, cells := 0, slots := 0, locals := 0 } : Room).cells ({ frames := 0, cells := 0, slots := 0, locals := 0 } : Room).slots) := by
  refine MetFree.of_bodySF (plainFor_of_name pn_3) hisR ?_
  intro p e s m args below meth c s₁ Bd hml0 hP hK
  obtain ⟨rfl, hZ, hh⟩ := hP
  have hx := Bd.exec
  have hby := Bd.bytes
  have hml : c.maxLocals = 3 := hml0
  have hown : s.vm.findClass "jdk/internal/util/Preconditions" = some m.cls := findClass_of_methodNamed Bd.named
  have hnm := (name_of_methodNamed Bd.named Bd.method).1
  have X0 : Stand p l e ({ frames := 0, cells := 0, slots := 0, locals := 0 } : Room) s m #[(.int pI), (.int pN), (.ref aF)] below meth c s₁ [] 0 0 := Stand.of_body Bd
  have e0 : s₁.heap = h0 := by rw [← hh, Bd.state]; rfl
  have N0 := Fr.nil n0
  let PO : Outcome → State → Prop := own_PO s (Q_rmPre_r pI h0 n0) 0 0
  show own_Go p e below PO (s₁.setTop (entryFrame m #[(.int pI), (.int pN), (.ref aF)] 3))
  rw [ef_rmPre_r]
  show own_Go p e below PO (s₁.setTop (mkF m 0 #[.val (.int pI), .val (.int pN), .val (.ref aF)] []))
  refine own_back ?_ (fun t k => XS.iloadN X0.here hx rfl (hb hby d11_0) rfl k)
  show own_Go p e below PO (s₁.setTop (mkF m 1 #[.val (.int pI), .val (.int pN), .val (.ref aF)] [(.int pI)]))
  refine own_back ?_ (fun t k => XS.ifNo X0.here hx rfl (hb hby d11_1) rfl ((if0 _ _).trans (flt hI).1) k)
  show own_Go p e below PO (s₁.setTop (mkF m 4 #[.val (.int pI), .val (.int pN), .val (.ref aF)] []))
  refine own_back ?_ (fun t k => XS.iloadN X0.here hx rfl (hb hby d11_4) rfl k)
  show own_Go p e below PO (s₁.setTop (mkF m 5 #[.val (.int pI), .val (.int pN), .val (.ref aF)] [(.int pI)]))
  refine own_back ?_ (fun t k => XS.iloadN X0.here hx rfl (hb hby d11_5) rfl k)
  show own_Go p e below PO (s₁.setTop (mkF m 6 #[.val (.int pI), .val (.int pN), .val (.ref aF)] [(.int pN), (.int pI)]))
  refine own_back ?_ (fun t k => XS.icmpYes X0.here hx rfl (pc0 := 6) (pc' := 16) rfl (hb hby d11_6) rfl (tlt hN).1 (by decide) (by decide) k)
  show own_Go p e below PO (s₁.setTop (mkF m 16 #[.val (.int pI), .val (.int pN), .val (.ref aF)] []))
  refine own_back ?_ (fun t k => XS.iloadN X0.here hx rfl (hb hby d11_16) rfl k)
  show own_Go p e below PO (s₁.setTop (mkF m 17 #[.val (.int pI), .val (.int pN), .val (.ref aF)] [(.int pI)]))
  refine own_retI X0 hx (rest := []) Bd.returns (hb hby d11_17) e0 (Bd.notSynchronized) ?_ (by decide) (by decide)
  exact ⟨by first | rfl | decide, N0, rfl⟩
theorem ef_rmCI_r (m : MethodId) (x0 : Int32) (x1 : Int32) : entryFrame m #[(.int x0), (.int x1)] 2 = mkF m 0 #[.val (.int x0), .val (.int x1)] [] := by first | (simp [entryFrame, mkF, argsToLocals, Value.category]; done) | rfl
def Q_rmCI_r (h0 : Heap) (n0 : Nat) (v : Option Value) (h : Heap) (L : List Loc) : Prop := v = none ∧ Fr n0 L ∧ h = h0
set_option maxRecDepth 65536 in
set_option maxHeartbeats 40000000 in
theorem rmCI_r (l : Launch) (Z : State) (a0 : Array Value) (hw : ∀ d ∈ tables_1, d.before a0 Z = true) (ws : List Jvm.Cond) (pI : Int32) (pN : Int32) (aF : Addr) (h0 : Heap) (n0 : Nat) (Z0 : n0 ≤ h0.size) (S_F : Sta Z h0 "jdk/internal/util/Preconditions" "SIOOBE_FORMATTER" "Ljava/util/function/BiFunction;" (.ref aF)) (hI : ¬ pI < (0 : Int32)) (hN : pI < pN) :
    MetFree l (⟨"java/lang/String", "checkIndex", "(II)V"⟩ : MethodName) (head1 (Jvm.Cond.code (⟨"java/lang/String", "checkIndex", "(II)V"⟩ : MethodName) jdk_42_method_155_code 2 none :: ws) ({ frames := 1, cells := 0, slots := 0, locals := 14 } : Room)) (fun a U => a = #[(.int pI), (.int pN)] ∧ Z.Warmed39 U.vm ∧ U.heap = h0) (fun _ _ _ _ _ => True) (fun _ U o U' => ∃ v L, o = .returned v ∧ Q_rmCI_r h0 n0 v U'.heap L ∧ FrameEnd U o U' L ({ frames := 1, cells := 0, slots := 0, locals := 14 } : Room).cells ({ frames := 1, cells := 0, slots := 0, locals := 14 } : Room).slots) := by
  refine MetFree.of_bodySF (plainFor_of_name pn_2) hisR ?_
  intro p e s m args below meth c s₁ Bd hml0 hP hK
  obtain ⟨rfl, hZ, hh⟩ := hP
  have hx := Bd.exec
  have hby := Bd.bytes
  have hml : c.maxLocals = 2 := hml0
  have hown : s.vm.findClass "java/lang/String" = some m.cls := findClass_of_methodNamed Bd.named
  have hnm := (name_of_methodNamed Bd.named Bd.method).1
  have X0 : Stand p l e ({ frames := 1, cells := 0, slots := 0, locals := 14 } : Room) s m #[(.int pI), (.int pN)] below meth c s₁ [] 0 0 := Stand.of_body Bd
  have e0 : s₁.heap = h0 := by rw [← hh, Bd.state]; rfl
  have N0 := Fr.nil n0
  let PO : Outcome → State → Prop := own_PO s (Q_rmCI_r h0 n0) 0 0
  show own_Go p e below PO (s₁.setTop (entryFrame m #[(.int pI), (.int pN)] 2))
  rw [ef_rmCI_r]
  show own_Go p e below PO (s₁.setTop (mkF m 0 #[.val (.int pI), .val (.int pN)] []))
  refine own_back ?_ (fun t k => XS.iloadN X0.here hx rfl (hb hby d10_0) rfl k)
  show own_Go p e below PO (s₁.setTop (mkF m 1 #[.val (.int pI), .val (.int pN)] [(.int pI)]))
  refine own_back ?_ (fun t k => XS.iloadN X0.here hx rfl (hb hby d10_1) rfl k)
  show own_Go p e below PO (s₁.setTop (mkF m 2 #[.val (.int pI), .val (.int pN)] [(.int pN), (.int pI)]))
  obtain ⟨T1, X1, e1, st1⟩ := getS2 X0 hx hZ hown (host := "") (Or.inl (hw _ (List.mem_of_getElem? (i := 59) rfl))) Via.refl e0 S_F (g := (mkF m 2 #[.val (.int pI), .val (.int pN)] [(.int pN), (.int pI)])) rfl (hb hby d10_2)
  refine own_back ?_ st1
  show own_Go p e below PO (T1.setTop (mkF m 5 #[.val (.int pI), .val (.int pN)] [(.ref aF), (.int pN), (.int pI)]))
  obtain ⟨_, _, ⟨T2, L2, k2, n2⟩, -, X2, ⟨Lc2, hQ2, l2, y2, z2⟩, st2⟩ := Jvm.LawKit.callS X1 hx (y := (⟨"jdk/internal/util/Preconditions", "checkIndex", "(IILjava/util/function/BiFunction;)I"⟩ : MethodName)) hown (mvT hZ (hw _ (List.mem_of_getElem? (i := 61) rfl))) (mvT hZ (hw _ (List.mem_of_getElem? (i := 62) rfl))) (mvT hZ (hw _ (List.mem_of_getElem? (i := 60) rfl))) (mvT hZ (hw _ (List.mem_of_getElem? (i := 63) rfl))) (by decide) (backOf (W := 0) (rmPre_r l Z a0 hw [] pI pN aF  h0 n0 Z0 hI hN) hZ (hw _ (List.mem_of_getElem? (i := 63) rfl)) (hw _ (List.mem_of_getElem? (i := 60) rfl)) (by decide) (by decide)) (g := (mkF m 5 #[.val (.int pI), .val (.int pN)] [(.ref aF), (.int pN), (.int pI)])) rfl (by rw [hml]; rfl) (argsL := [(.int pI), (.int pN), (.ref aF)]) (rest := []) (lenOf pd_1 rfl) rfl (by show 2 * 0 + _ ≤ _; exact Nat.le_of_eq rfl) (hb hby d10_5) (fun _ _ => ⟨rfl, e1, (by decide : 0 + 0 ≤ _), (by decide : 0 + 0 ≤ _)⟩)
  dsimp only [Pt.U, Pt.locs, Pt.cells, Pt.slots] at X2 l2 y2 z2 st2 hQ2
  subst l2 y2 z2
  obtain ⟨rfl, N2q, e2⟩ := hQ2
  have N2 := Fr.app N0 N2q
  refine own_back ?_ st2
  show own_Go p e below PO (T2.setTop (mkF m 8 #[.val (.int pI), .val (.int pN)] [(.int pI)]))
  refine own_back ?_ (fun t k => XS.pop X2.here hx rfl (hb hby d10_8) rfl rfl k)
  show own_Go p e below PO (T2.setTop (mkF m 9 #[.val (.int pI), .val (.int pN)] []))
  refine own_retV X2 hx Bd.returns (hb hby d10_9) e2 (Bd.notSynchronized) ?_ (by decide) (by decide)
  exact ⟨by first | rfl | decide, N2, rfl⟩
theorem rmCI (l : Launch) (Z : State) (a0 : Array Value) (hw : ∀ d ∈ tables_1, d.before a0 Z = true) (ws : List Jvm.Cond) (pI : Int32) (pN : Int32) (vF : Value) (h0 : Heap) (n0 : Nat) (Z0 : n0 ≤ h0.size) (S_F : Sta Z h0 "jdk/internal/util/Preconditions" "SIOOBE_FORMATTER" "Ljava/util/function/BiFunction;" vF) (hF : vF.isRef = true) (hI : ¬ pI < (0 : Int32)) (hN : pI < pN) :
    MetFree l (⟨"java/lang/String", "checkIndex", "(II)V"⟩ : MethodName) (head1 (Jvm.Cond.code (⟨"java/lang/String", "checkIndex", "(II)V"⟩ : MethodName) jdk_42_method_155_code 2 none :: ws) ({ frames := 1, cells := 0, slots := 0, locals := 14 } : Room)) (fun a U => a = #[(.int pI), (.int pN)] ∧ Z.Warmed39 U.vm ∧ U.heap = h0) (fun _ _ _ _ _ => True) (fun _ U o U' => ∃ v L, o = .returned v ∧ Q_rmCI_r h0 n0 v U'.heap L ∧ FrameEnd U o U' L ({ frames := 1, cells := 0, slots := 0, locals := 14 } : Room).cells ({ frames := 1, cells := 0, slots := 0, locals := 14 } : Room).slots) := by
  cases vF with
  | null => exact rmCI_n l Z a0 hw ws pI pN h0 n0 Z0 S_F hI hN
  | ref aF => exact rmCI_r l Z a0 hw ws pI pN aF h0 n0 Z0 S_F hI hN
  | _ => cases hF
theorem pd_2 : parseMethodDescriptor "()B" = some ⟨[], some .byte⟩ := by decide +kernel
theorem d5_0 : decode jdk_42_method_54_code 0 = .ok (.aload_n 0, 1) := by decide +kernel
theorem d5_1 : decode jdk_42_method_54_code 1 = .ok (.getfield 9, 3) := by decide +kernel
theorem d5_4 : decode jdk_42_method_54_code 4 = .ok (.arraylength, 1) := by decide +kernel
theorem d5_5 : decode jdk_42_method_54_code 5 = .ok (.aload_n 0, 1) := by decide +kernel
theorem d5_6 : decode jdk_42_method_54_code 6 = .ok (.invokevirtual 335, 3) := by decide +kernel
theorem d5_9 : decode jdk_42_method_54_code 9 = .ok (.ishr, 1) := by decide +kernel
theorem d5_10 : decode jdk_42_method_54_code 10 = .ok (.ireturn, 1) := by decide +kernel
theorem ef_rmLen_1 (m : MethodId) (x0 : Addr) : entryFrame m #[(.ref x0)] 1 = mkF m 0 #[.val (.ref x0)] [] := by first | (simp [entryFrame, mkF, argsToLocals, Value.category]; done) | rfl
def Q_rmLen_1 (h0 : Heap) (n0 : Nat) (v : Option Value) (h : Heap) (L : List Loc) : Prop := v = some (.int 4) ∧ Fr n0 L ∧ h = h0
set_option maxRecDepth 65536 in
set_option maxHeartbeats 40000000 in
theorem rmLen_1 (l : Launch) (Z : State) (a0 : Array Value) (hw : ∀ d ∈ tables_1, d.before a0 Z = true) (ws : List Jvm.Cond) (aS : Addr) (aB : Addr) (kB : ClassId) (zC : Int32)  (h0 : Heap) (n0 : Nat) (Z0 : n0 ≤ h0.size) (E_S : Exa Z h0 aS "java/lang/String") (F_c : Fld Z h0 aS "java/lang/String" "coder" "B" (.int 0)) (F_v : Fld Z h0 aS "java/lang/String" "value" "[B" (.ref aB)) (V_B : Arv Z h0 aB kB .byte (4 : Int32) [(.int (84 : Int32)), (.int (82 : Int32)), (.int (85 : Int32)), (.int (69 : Int32))] (.int 0)) (S_C : Sta Z h0 "java/lang/String" "COMPACT_STRINGS" "Z" (.int zC)) (nzC : ¬ zC = (0 : Int32)) :
    MetFree l (⟨"java/lang/String", "length", "()I"⟩ : MethodName) (head1 (Jvm.Cond.code (⟨"java/lang/String", "length", "()I"⟩ : MethodName) jdk_42_method_54_code 1 (some .int) :: ws) ({ frames := 1, cells := 0, slots := 0, locals := 13 } : Room)) (fun a U => a = #[(.ref aS)] ∧ Z.Warmed39 U.vm ∧ U.heap = h0) (fun _ _ _ _ _ => True) (fun _ U o U' => ∃ v L, o = .returned v ∧ Q_rmLen_1 h0 n0 v U'.heap L ∧ FrameEnd U o U' L ({ frames := 1, cells := 0, slots := 0, locals := 13 } : Room).cells ({ frames := 1, cells := 0, slots := 0, locals := 13 } : Room).slots) := by
  refine MetFree.of_bodySF (plainFor_of_name pn_2) hisR ?_
  intro p e s m args below meth c s₁ Bd hml0 hP hK
  obtain ⟨rfl, hZ, hh⟩ := hP
  have hx := Bd.exec
  have hby := Bd.bytes
  have hml : c.maxLocals = 1 := hml0
  have hown : s.vm.findClass "java/lang/String" = some m.cls := findClass_of_methodNamed Bd.named
  have hnm := (name_of_methodNamed Bd.named Bd.method).1
  have X0 : Stand p l e ({ frames := 1, cells := 0, slots := 0, locals := 13 } : Room) s m #[(.ref aS)] below meth c s₁ [] 0 0 := Stand.of_body Bd
  have e0 : s₁.heap = h0 := by rw [← hh, Bd.state]; rfl
  have N0 := Fr.nil n0
  let PO : Outcome → State → Prop := own_PO s (Q_rmLen_1 h0 n0) 0 0
  show own_Go p e below PO (s₁.setTop (entryFrame m #[(.ref aS)] 1))
  rw [ef_rmLen_1]
  show own_Go p e below PO (s₁.setTop (mkF m 0 #[.val (.ref aS)] []))
  refine own_back ?_ (fun t k => XS.aloadN X0.here hx rfl (hb hby d5_0) rfl rfl k)
  show own_Go p e below PO (s₁.setTop (mkF m 1 #[.val (.ref aS)] [(.ref aS)]))
  obtain ⟨T1, X1, e1, st1⟩ := getF X0 hx hZ hown (host := "") (Or.inl (hw _ (List.mem_of_getElem? (i := 34) rfl))) Via.refl e0 F_v (g := (mkF m 1 #[.val (.ref aS)] [(.ref aS)])) rfl rfl (hb hby d5_1)
  refine own_back ?_ st1
  show own_Go p e below PO (T1.setTop (mkF m 4 #[.val (.ref aS)] [(.ref aB)]))
  refine own_back ?_ (own_len X1 hx hZ e1 V_B (g := (mkF m 4 #[.val (.ref aS)] [(.ref aB)])) rfl rfl (hb hby d5_4))
  show own_Go p e below PO (T1.setTop (mkF m 5 #[.val (.ref aS)] [(.int (4 : Int32))]))
  refine own_back ?_ (fun t k => XS.aloadN X1.here hx rfl (hb hby d5_5) rfl rfl k)
  show own_Go p e below PO (T1.setTop (mkF m 6 #[.val (.ref aS)] [(.ref aS), (.int (4 : Int32))]))
  obtain ⟨cq2, kq2, q2a, q2b, q2c⟩ := isOf hZ e1 E_S
  obtain ⟨_, _, ⟨T2, L2, k2, n2⟩, -, X2, ⟨Lc2, hQ2, l2, y2, z2⟩, st2⟩ := X1.virtualBack hx (y := (⟨"java/lang/String", "coder", "()B"⟩ : MethodName)) (z := (⟨"java/lang/String", "coder", "()B"⟩ : MethodName)) hown (mvT hZ (hw _ (List.mem_of_getElem? (i := 35) rfl))) (mvT hZ (hw _ (List.mem_of_getElem? (i := 36) rfl))) (notFace_of_selects (args := #[]) (mvT hZ (hw _ (List.mem_of_getElem? (i := 38) rfl)))) (mvT hZ (hw _ (List.mem_of_getElem? (i := 38) rfl))) (mvT hZ (hw _ (List.mem_of_getElem? (i := 37) rfl))) (by decide) (backOf (W := 1) (rm6 l Z a0 hw [] aS zC h0 n0 Z0 F_c S_C nzC) hZ (hw _ (List.mem_of_getElem? (i := 39) rfl)) (hw _ (List.mem_of_getElem? (i := 22) rfl)) (by decide) (by decide)) q2a q2c (g := (mkF m 6 #[.val (.ref aS)] [(.ref aS), (.int (4 : Int32))])) rfl (by rw [hml]; rfl) (Steps.refl _) (argsL := []) (rest := [(.int (4 : Int32))]) (lenOf pd_2 rfl) rfl (by show 2 * 0 + _ ≤ _; exact Nat.le_of_eq rfl) (hb hby d5_6) (fun _ _ => ⟨rfl, e1, (by decide : 0 + 0 ≤ _), (by decide : 0 + 0 ≤ _)⟩)
  dsimp only [Pt.U, Pt.locs, Pt.cells, Pt.slots] at X2 l2 y2 z2 st2 hQ2
  subst l2 y2 z2
  obtain ⟨rfl, N2q, e2⟩ := hQ2
  have N2 := Fr.app N0 N2q
  refine own_back ?_ (fun t k => st2.trans k)
  show own_Go p e below PO (T2.setTop (mkF m 9 #[.val (.ref aS)] [(.int (0 : Int32)), (.int (4 : Int32))]))
  refine own_back ?_ (fun t k => XS.ishr X2.here hx rfl (hb hby d5_9) rfl k)
  show own_Go p e below PO (T2.setTop (mkF m 10 #[.val (.ref aS)] [(.int ((4 : Int32) >>> ((0 : Int32) &&& 31)))]))
  refine own_retI X2 hx (rest := []) Bd.returns (hb hby d5_10) e2 (Bd.notSynchronized) ?_ (by decide) (by decide)
  exact ⟨by first | rfl | decide, N2, rfl⟩
theorem pd_3 : parseMethodDescriptor "(II)V" = some ⟨[.int, .int], none⟩ := by decide +kernel
theorem d9_0 : decode jdk_43_method_2_code 0 = .ok (.iload_n 1, 1) := by decide +kernel
theorem d9_1 : decode jdk_43_method_2_code 1 = .ok (.aload_n 0, 1) := by decide +kernel
theorem d9_2 : decode jdk_43_method_2_code 2 = .ok (.arraylength, 1) := by decide +kernel
theorem d9_3 : decode jdk_43_method_2_code 3 = .ok (.invokestatic 9, 3) := by decide +kernel
theorem d9_6 : decode jdk_43_method_2_code 6 = .ok (.aload_n 0, 1) := by decide +kernel
theorem d9_7 : decode jdk_43_method_2_code 7 = .ok (.iload_n 1, 1) := by decide +kernel
theorem d9_8 : decode jdk_43_method_2_code 8 = .ok (.baload, 1) := by decide +kernel
theorem d9_9 : decode jdk_43_method_2_code 9 = .ok (.sipush 255, 3) := by decide +kernel
theorem d9_12 : decode jdk_43_method_2_code 12 = .ok (.iand, 1) := by decide +kernel
theorem d9_13 : decode jdk_43_method_2_code 13 = .ok (.i2c, 1) := by decide +kernel
theorem d9_14 : decode jdk_43_method_2_code 14 = .ok (.ireturn, 1) := by decide +kernel
theorem pn_4 : plainName "java/lang/StringLatin1" = true := by first | (simp [plainName, overriddenIn]; done) | decide +kernel
theorem ef_rmL_1_0 (m : MethodId) (x0 : Addr) (x1 : Int32) : entryFrame m #[(.ref x0), (.int x1)] 2 = mkF m 0 #[.val (.ref x0), .val (.int x1)] [] := by first | (simp [entryFrame, mkF, argsToLocals, Value.category]; done) | rfl
def Q_rmL_1_0  (h0 : Heap) (n0 : Nat) (v : Option Value) (h : Heap) (L : List Loc) : Prop := v = some (.int (84 : Int32)) ∧ Fr n0 L ∧ h = h0
set_option maxRecDepth 65536 in
set_option maxHeartbeats 40000000 in
theorem rmL_1_0 (l : Launch) (Z : State) (a0 : Array Value) (hw : ∀ d ∈ tables_1, d.before a0 Z = true) (ws : List Jvm.Cond) (aB : Addr) (kB : ClassId) (vF : Value)  (h0 : Heap) (n0 : Nat) (Z0 : n0 ≤ h0.size) (V_B : Arv Z h0 aB kB .byte (4 : Int32) [(.int (84 : Int32)), (.int (82 : Int32)), (.int (85 : Int32)), (.int (69 : Int32))] (.int 0)) (S_F : Sta Z h0 "jdk/internal/util/Preconditions" "SIOOBE_FORMATTER" "Ljava/util/function/BiFunction;" vF) (hF : vF.isRef = true)  :
    MetFree l (⟨"java/lang/StringLatin1", "charAt", "([BI)C"⟩ : MethodName) (head1 (Jvm.Cond.code (⟨"java/lang/StringLatin1", "charAt", "([BI)C"⟩ : MethodName) jdk_43_method_2_code 2 (some .char) :: ws) ({ frames := 2, cells := 0, slots := 0, locals := 27 } : Room)) (fun a U => a = #[(.ref aB), (.int (0 : Int32))] ∧ Z.Warmed39 U.vm ∧ U.heap = h0) (fun _ _ _ _ _ => True) (fun _ U o U' => ∃ v L, o = .returned v ∧ Q_rmL_1_0  h0 n0 v U'.heap L ∧ FrameEnd U o U' L ({ frames := 2, cells := 0, slots := 0, locals := 27 } : Room).cells ({ frames := 2, cells := 0, slots := 0, locals := 27 } : Room).slots) := by
  refine MetFree.of_bodySF (plainFor_of_name pn_4) hisR ?_
  intro p e s m args below meth c s₁ Bd hml0 hP hK
  obtain ⟨rfl, hZ, hh⟩ := hP
  have hx := Bd.exec
  have hby := Bd.bytes
  have hml : c.maxLocals = 2 := hml0
  have hown : s.vm.findClass "java/lang/StringLatin1" = some m.cls := findClass_of_methodNamed Bd.named
  have hnm := (name_of_methodNamed Bd.named Bd.method).1
  have X0 : Stand p l e ({ frames := 2, cells := 0, slots := 0, locals := 27 } : Room) s m #[(.ref aB), (.int (0 : Int32))] below meth c s₁ [] 0 0 := Stand.of_body Bd
  have e0 : s₁.heap = h0 := by rw [← hh, Bd.state]; rfl
  have N0 := Fr.nil n0
  let PO : Outcome → State → Prop := own_PO s (Q_rmL_1_0  h0 n0) 0 0
  show own_Go p e below PO (s₁.setTop (entryFrame m #[(.ref aB), (.int (0 : Int32))] 2))
  rw [ef_rmL_1_0]
  show own_Go p e below PO (s₁.setTop (mkF m 0 #[.val (.ref aB), .val (.int (0 : Int32))] []))
  refine own_back ?_ (fun t k => XS.iloadN X0.here hx rfl (hb hby d9_0) rfl k)
  show own_Go p e below PO (s₁.setTop (mkF m 1 #[.val (.ref aB), .val (.int (0 : Int32))] [(.int (0 : Int32))]))
  refine own_back ?_ (fun t k => XS.aloadN X0.here hx rfl (hb hby d9_1) rfl rfl k)
  show own_Go p e below PO (s₁.setTop (mkF m 2 #[.val (.ref aB), .val (.int (0 : Int32))] [(.ref aB), (.int (0 : Int32))]))
  refine own_back ?_ (own_len X0 hx hZ e0 V_B (g := (mkF m 2 #[.val (.ref aB), .val (.int (0 : Int32))] [(.ref aB), (.int (0 : Int32))])) rfl rfl (hb hby d9_2))
  show own_Go p e below PO (s₁.setTop (mkF m 3 #[.val (.ref aB), .val (.int (0 : Int32))] [(.int (4 : Int32)), (.int (0 : Int32))]))
  obtain ⟨_, _, ⟨T1, L1, k1, n1⟩, -, X1, ⟨Lc1, hQ1, l1, y1, z1⟩, st1⟩ := Jvm.LawKit.callS X0 hx (y := (⟨"java/lang/String", "checkIndex", "(II)V"⟩ : MethodName)) hown (mvT hZ (hw _ (List.mem_of_getElem? (i := 56) rfl))) (mvT hZ (hw _ (List.mem_of_getElem? (i := 57) rfl))) (mvT hZ (hw _ (List.mem_of_getElem? (i := 22) rfl))) (mvT hZ (hw _ (List.mem_of_getElem? (i := 58) rfl))) (by decide) (backOf (W := 0) (rmCI l Z a0 hw [] (0 : Int32) (4 : Int32) vF h0 n0 Z0 S_F hF (by decide) (by decide)) hZ (hw _ (List.mem_of_getElem? (i := 58) rfl)) (hw _ (List.mem_of_getElem? (i := 22) rfl)) (by decide) (by decide)) (g := (mkF m 3 #[.val (.ref aB), .val (.int (0 : Int32))] [(.int (4 : Int32)), (.int (0 : Int32))])) rfl (by rw [hml]; rfl) (argsL := [(.int (0 : Int32)), (.int (4 : Int32))]) (rest := []) (lenOf pd_3 rfl) rfl (by show 2 * 0 + _ ≤ _; exact Nat.le_of_eq rfl) (hb hby d9_3) (fun _ _ => ⟨rfl, e0, (by decide : 0 + 0 ≤ _), (by decide : 0 + 0 ≤ _)⟩)
  dsimp only [Pt.U, Pt.locs, Pt.cells, Pt.slots] at X1 l1 y1 z1 st1 hQ1
  subst l1 y1 z1
  obtain ⟨rfl, N1q, e1⟩ := hQ1
  have N1 := Fr.app N0 N1q
  refine own_back ?_ st1
  show own_Go p e below PO (T1.setTop (mkF m 6 #[.val (.ref aB), .val (.int (0 : Int32))] []))
  refine own_back ?_ (fun t k => XS.aloadN X1.here hx rfl (hb hby d9_6) rfl rfl k)
  show own_Go p e below PO (T1.setTop (mkF m 7 #[.val (.ref aB), .val (.int (0 : Int32))] [(.ref aB)]))
  refine own_back ?_ (fun t k => XS.iloadN X1.here hx rfl (hb hby d9_7) rfl k)
  show own_Go p e below PO (T1.setTop (mkF m 8 #[.val (.ref aB), .val (.int (0 : Int32))] [(.int (0 : Int32)), (.ref aB)]))
  refine own_back ?_ (own_ldB X1 hx hZ e1 V_B (j := (0 : Int32)) (v := (.int (84 : Int32))) ⟨by decide, by decide⟩ rfl (g := (mkF m 8 #[.val (.ref aB), .val (.int (0 : Int32))] [(.int (0 : Int32)), (.ref aB)])) rfl rfl (hb hby d9_8))
  show own_Go p e below PO (T1.setTop (mkF m 9 #[.val (.ref aB), .val (.int (0 : Int32))] [(.int (84 : Int32))]))
  refine own_back ?_ (fun t k => XS.sipush X1.here hx rfl (hb hby d9_9) k)
  show own_Go p e below PO (T1.setTop (mkF m 12 #[.val (.ref aB), .val (.int (0 : Int32))] [(.int (255 : Int32)), (.int (84 : Int32))]))
  refine own_back ?_ (fun t k => XS.iand X1.here hx rfl (hb hby d9_12) rfl k)
  show own_Go p e below PO (T1.setTop (mkF m 13 #[.val (.ref aB), .val (.int (0 : Int32))] [(.int (84 : Int32))]))
  refine own_back ?_ (fun t k => XS.i2c X1.here hx rfl (hb hby d9_13) rfl k)
  show own_Go p e below PO (T1.setTop (mkF m 14 #[.val (.ref aB), .val (.int (0 : Int32))] [(.int ((84 : Int32).toUInt32.toUInt16.toUInt32.toInt32))]))
  refine own_retN X1 hx (t := .char) (rest := []) Bd.returns (by decide) (by simp) (hb hby d9_14) e1 (Bd.notSynchronized) ?_ (by decide) (by decide)
  exact ⟨congrArg (fun z => some (Value.int z)) (by first | rfl | decide), N1, rfl⟩
theorem pd_4 : parseMethodDescriptor "()Z" = some ⟨[], some .boolean⟩ := by decide +kernel
theorem pd_5 : parseMethodDescriptor "([BI)C" = some ⟨[(.array .byte), .int], some .char⟩ := by decide +kernel
theorem d7_0 : decode jdk_42_method_56_code 0 = .ok (.aload_n 0, 1) := by decide +kernel
theorem d7_1 : decode jdk_42_method_56_code 1 = .ok (.invokevirtual 492, 3) := by decide +kernel
theorem d7_4 : decode jdk_42_method_56_code 4 = .ok (.ifCond .eq 12, 3) := by decide +kernel
theorem d7_7 : decode jdk_42_method_56_code 7 = .ok (.aload_n 0, 1) := by decide +kernel
theorem d7_8 : decode jdk_42_method_56_code 8 = .ok (.getfield 9, 3) := by decide +kernel
theorem d7_11 : decode jdk_42_method_56_code 11 = .ok (.iload_n 1, 1) := by decide +kernel
theorem d7_12 : decode jdk_42_method_56_code 12 = .ok (.invokestatic 495, 3) := by decide +kernel
theorem d7_15 : decode jdk_42_method_56_code 15 = .ok (.ireturn, 1) := by decide +kernel
theorem ef_rmCh_1_0 (m : MethodId) (x0 : Addr) (x1 : Int32) : entryFrame m #[(.ref x0), (.int x1)] 2 = mkF m 0 #[.val (.ref x0), .val (.int x1)] [] := by first | (simp [entryFrame, mkF, argsToLocals, Value.category]; done) | rfl
def Q_rmCh_1_0  (h0 : Heap) (n0 : Nat) (v : Option Value) (h : Heap) (L : List Loc) : Prop := v = some (.int (84 : Int32)) ∧ Fr n0 L ∧ h = h0
set_option maxRecDepth 65536 in
set_option maxHeartbeats 40000000 in
theorem rmCh_1_0 (l : Launch) (Z : State) (a0 : Array Value) (hw : ∀ d ∈ tables_1, d.before a0 Z = true) (ws : List Jvm.Cond) (aS : Addr) (aB : Addr) (kB : ClassId) (zC : Int32) (vF : Value)  (h0 : Heap) (n0 : Nat) (Z0 : n0 ≤ h0.size) (E_S : Exa Z h0 aS "java/lang/String") (F_c : Fld Z h0 aS "java/lang/String" "coder" "B" (.int 0)) (F_v : Fld Z h0 aS "java/lang/String" "value" "[B" (.ref aB)) (V_B : Arv Z h0 aB kB .byte (4 : Int32) [(.int (84 : Int32)), (.int (82 : Int32)), (.int (85 : Int32)), (.int (69 : Int32))] (.int 0)) (S_C : Sta Z h0 "java/lang/String" "COMPACT_STRINGS" "Z" (.int zC)) (nzC : ¬ zC = (0 : Int32)) (S_F : Sta Z h0 "jdk/internal/util/Preconditions" "SIOOBE_FORMATTER" "Ljava/util/function/BiFunction;" vF) (hF : vF.isRef = true)  :
    MetFree l (⟨"java/lang/String", "charAt", "(I)C"⟩ : MethodName) (head1 (Jvm.Cond.code (⟨"java/lang/String", "charAt", "(I)C"⟩ : MethodName) jdk_42_method_56_code 2 (some .char) :: ws) ({ frames := 3, cells := 0, slots := 0, locals := 40 } : Room)) (fun a U => a = #[(.ref aS), (.int (0 : Int32))] ∧ Z.Warmed39 U.vm ∧ U.heap = h0) (fun _ _ _ _ _ => True) (fun _ U o U' => ∃ v L, o = .returned v ∧ Q_rmCh_1_0  h0 n0 v U'.heap L ∧ FrameEnd U o U' L ({ frames := 3, cells := 0, slots := 0, locals := 40 } : Room).cells ({ frames := 3, cells := 0, slots := 0, locals := 40 } : Room).slots) := by
  refine MetFree.of_bodySF (plainFor_of_name pn_2) hisR ?_
  intro p e s m args below meth c s₁ Bd hml0 hP hK
  obtain ⟨rfl, hZ, hh⟩ := hP
  have hx := Bd.exec
  have hby := Bd.bytes
  have hml : c.maxLocals = 2 := hml0
  have hown : s.vm.findClass "java/lang/String" = some m.cls := findClass_of_methodNamed Bd.named
  have hnm := (name_of_methodNamed Bd.named Bd.method).1
  have X0 : Stand p l e ({ frames := 3, cells := 0, slots := 0, locals := 40 } : Room) s m #[(.ref aS), (.int (0 : Int32))] below meth c s₁ [] 0 0 := Stand.of_body Bd
  have e0 : s₁.heap = h0 := by rw [← hh, Bd.state]; rfl
  have N0 := Fr.nil n0
  let PO : Outcome → State → Prop := own_PO s (Q_rmCh_1_0  h0 n0) 0 0
  show own_Go p e below PO (s₁.setTop (entryFrame m #[(.ref aS), (.int (0 : Int32))] 2))
  rw [ef_rmCh_1_0]
  show own_Go p e below PO (s₁.setTop (mkF m 0 #[.val (.ref aS), .val (.int (0 : Int32))] []))
  refine own_back ?_ (fun t k => XS.aloadN X0.here hx rfl (hb hby d7_0) rfl rfl k)
  show own_Go p e below PO (s₁.setTop (mkF m 1 #[.val (.ref aS), .val (.int (0 : Int32))] [(.ref aS)]))
  obtain ⟨cq1, kq1, q1a, q1b, q1c⟩ := isOf hZ e0 E_S
  obtain ⟨_, _, ⟨T1, L1, k1, n1⟩, -, X1, ⟨Lc1, hQ1, l1, y1, z1⟩, st1⟩ := X0.virtualBack hx (y := (⟨"java/lang/String", "isLatin1", "()Z"⟩ : MethodName)) (z := (⟨"java/lang/String", "isLatin1", "()Z"⟩ : MethodName)) hown (mvT hZ (hw _ (List.mem_of_getElem? (i := 47) rfl))) (mvT hZ (hw _ (List.mem_of_getElem? (i := 48) rfl))) (notFace_of_selects (args := #[]) (mvT hZ (hw _ (List.mem_of_getElem? (i := 50) rfl)))) (mvT hZ (hw _ (List.mem_of_getElem? (i := 50) rfl))) (mvT hZ (hw _ (List.mem_of_getElem? (i := 49) rfl))) (by decide) (backOf (W := 0) (rm8 l Z a0 hw [] aS zC h0 n0 Z0 F_c S_C nzC) hZ (hw _ (List.mem_of_getElem? (i := 51) rfl)) (hw _ (List.mem_of_getElem? (i := 22) rfl)) (by decide) (by decide)) q1a q1c (g := (mkF m 1 #[.val (.ref aS), .val (.int (0 : Int32))] [(.ref aS)])) rfl (by rw [hml]; rfl) (Steps.refl _) (argsL := []) (rest := []) (lenOf pd_4 rfl) rfl (by show 2 * 0 + _ ≤ _; exact Nat.le_of_eq rfl) (hb hby d7_1) (fun _ _ => ⟨rfl, e0, (by decide : 0 + 0 ≤ _), (by decide : 0 + 0 ≤ _)⟩)
  dsimp only [Pt.U, Pt.locs, Pt.cells, Pt.slots] at X1 l1 y1 z1 st1 hQ1
  subst l1 y1 z1
  obtain ⟨rfl, N1q, e1⟩ := hQ1
  have N1 := Fr.app N0 N1q
  refine own_back ?_ (fun t k => st1.trans k)
  show own_Go p e below PO (T1.setTop (mkF m 4 #[.val (.ref aS), .val (.int (0 : Int32))] [(.int (1 : Int32))]))
  have hd4_2 : ¬ ((1 : Int32) = (0 : Int32)) := (by decide)
  refine own_back ?_ (fun t k => XS.ifNo X1.here hx rfl (hb hby d7_4) rfl ((if0 _ _).trans (feq hd4_2).1) k)
  show own_Go p e below PO (T1.setTop (mkF m 7 #[.val (.ref aS), .val (.int (0 : Int32))] []))
  refine own_back ?_ (fun t k => XS.aloadN X1.here hx rfl (hb hby d7_7) rfl rfl k)
  show own_Go p e below PO (T1.setTop (mkF m 8 #[.val (.ref aS), .val (.int (0 : Int32))] [(.ref aS)]))
  obtain ⟨T3, X3, e3, st3⟩ := getF X1 hx hZ hown (host := "") (Or.inl (hw _ (List.mem_of_getElem? (i := 34) rfl))) Via.refl e1 F_v (g := (mkF m 8 #[.val (.ref aS), .val (.int (0 : Int32))] [(.ref aS)])) rfl rfl (hb hby d7_8)
  refine own_back ?_ st3
  show own_Go p e below PO (T3.setTop (mkF m 11 #[.val (.ref aS), .val (.int (0 : Int32))] [(.ref aB)]))
  refine own_back ?_ (fun t k => XS.iloadN X3.here hx rfl (hb hby d7_11) rfl k)
  show own_Go p e below PO (T3.setTop (mkF m 12 #[.val (.ref aS), .val (.int (0 : Int32))] [(.int (0 : Int32)), (.ref aB)]))
  obtain ⟨_, _, ⟨T4, L4, k4, n4⟩, -, X4, ⟨Lc4, hQ4, l4, y4, z4⟩, st4⟩ := Jvm.LawKit.callS X3 hx (y := (⟨"java/lang/StringLatin1", "charAt", "([BI)C"⟩ : MethodName)) hown (mvT hZ (hw _ (List.mem_of_getElem? (i := 52) rfl))) (mvT hZ (hw _ (List.mem_of_getElem? (i := 53) rfl))) (mvT hZ (hw _ (List.mem_of_getElem? (i := 54) rfl))) (mvT hZ (hw _ (List.mem_of_getElem? (i := 55) rfl))) (by decide) (backOf (W := 0) (rmL_1_0 l Z a0 hw [] aB kB vF  h0 n0 Z0 V_B S_F hF ) hZ (hw _ (List.mem_of_getElem? (i := 55) rfl)) (hw _ (List.mem_of_getElem? (i := 54) rfl)) (by decide) (by decide)) (g := (mkF m 12 #[.val (.ref aS), .val (.int (0 : Int32))] [(.int (0 : Int32)), (.ref aB)])) rfl (by rw [hml]; rfl) (argsL := [(.ref aB), (.int (0 : Int32))]) (rest := []) (lenOf pd_5 rfl) rfl (by show 2 * 0 + _ ≤ _; exact Nat.le_of_eq rfl) (hb hby d7_12) (fun _ _ => ⟨rfl, e3, (by decide : 0 + 0 ≤ _), (by decide : 0 + 0 ≤ _)⟩)
  dsimp only [Pt.U, Pt.locs, Pt.cells, Pt.slots] at X4 l4 y4 z4 st4 hQ4
  subst l4 y4 z4
  obtain ⟨rfl, N4q, e4⟩ := hQ4
  have N4 := Fr.app N1 N4q
  refine own_back ?_ st4
  show own_Go p e below PO (T4.setTop (mkF m 15 #[.val (.ref aS), .val (.int (0 : Int32))] [(.int (84 : Int32))]))
  refine own_retN X4 hx (t := .char) (rest := []) Bd.returns (by decide) (by simp) (hb hby d7_15) e4 (Bd.notSynchronized) ?_ (by decide) (by decide)
  exact ⟨by first | rfl | decide, N4, rfl⟩
theorem ef_rmL_1_1 (m : MethodId) (x0 : Addr) (x1 : Int32) : entryFrame m #[(.ref x0), (.int x1)] 2 = mkF m 0 #[.val (.ref x0), .val (.int x1)] [] := by first | (simp [entryFrame, mkF, argsToLocals, Value.category]; done) | rfl
def Q_rmL_1_1  (h0 : Heap) (n0 : Nat) (v : Option Value) (h : Heap) (L : List Loc) : Prop := v = some (.int (82 : Int32)) ∧ Fr n0 L ∧ h = h0
set_option maxRecDepth 65536 in
set_option maxHeartbeats 40000000 in
theorem rmL_1_1 (l : Launch) (Z : State) (a0 : Array Value) (hw : ∀ d ∈ tables_1, d.before a0 Z = true) (ws : List Jvm.Cond) (aB : Addr) (kB : ClassId) (vF : Value)  (h0 : Heap) (n0 : Nat) (Z0 : n0 ≤ h0.size) (V_B : Arv Z h0 aB kB .byte (4 : Int32) [(.int (84 : Int32)), (.int (82 : Int32)), (.int (85 : Int32)), (.int (69 : Int32))] (.int 0)) (S_F : Sta Z h0 "jdk/internal/util/Preconditions" "SIOOBE_FORMATTER" "Ljava/util/function/BiFunction;" vF) (hF : vF.isRef = true)  :
    MetFree l (⟨"java/lang/StringLatin1", "charAt", "([BI)C"⟩ : MethodName) (head1 (Jvm.Cond.code (⟨"java/lang/StringLatin1", "charAt", "([BI)C"⟩ : MethodName) jdk_43_method_2_code 2 (some .char) :: ws) ({ frames := 2, cells := 0, slots := 0, locals := 27 } : Room)) (fun a U => a = #[(.ref aB), (.int (1 : Int32))] ∧ Z.Warmed39 U.vm ∧ U.heap = h0) (fun _ _ _ _ _ => True) (fun _ U o U' => ∃ v L, o = .returned v ∧ Q_rmL_1_1  h0 n0 v U'.heap L ∧ FrameEnd U o U' L ({ frames := 2, cells := 0, slots := 0, locals := 27 } : Room).cells ({ frames := 2, cells := 0, slots := 0, locals := 27 } : Room).slots) := by
  refine MetFree.of_bodySF (plainFor_of_name pn_4) hisR ?_
  intro p e s m args below meth c s₁ Bd hml0 hP hK
  obtain ⟨rfl, hZ, hh⟩ := hP
  have hx := Bd.exec
  have hby := Bd.bytes
  have hml : c.maxLocals = 2 := hml0
  have hown : s.vm.findClass "java/lang/StringLatin1" = some m.cls := findClass_of_methodNamed Bd.named
  have hnm := (name_of_methodNamed Bd.named Bd.method).1
  have X0 : Stand p l e ({ frames := 2, cells := 0, slots := 0, locals := 27 } : Room) s m #[(.ref aB), (.int (1 : Int32))] below meth c s₁ [] 0 0 := Stand.of_body Bd
  have e0 : s₁.heap = h0 := by rw [← hh, Bd.state]; rfl
  have N0 := Fr.nil n0
  let PO : Outcome → State → Prop := own_PO s (Q_rmL_1_1  h0 n0) 0 0
  show own_Go p e below PO (s₁.setTop (entryFrame m #[(.ref aB), (.int (1 : Int32))] 2))
  rw [ef_rmL_1_1]
  show own_Go p e below PO (s₁.setTop (mkF m 0 #[.val (.ref aB), .val (.int (1 : Int32))] []))
  refine own_back ?_ (fun t k => XS.iloadN X0.here hx rfl (hb hby d9_0) rfl k)
  show own_Go p e below PO (s₁.setTop (mkF m 1 #[.val (.ref aB), .val (.int (1 : Int32))] [(.int (1 : Int32))]))
  refine own_back ?_ (fun t k => XS.aloadN X0.here hx rfl (hb hby d9_1) rfl rfl k)
  show own_Go p e below PO (s₁.setTop (mkF m 2 #[.val (.ref aB), .val (.int (1 : Int32))] [(.ref aB), (.int (1 : Int32))]))
  refine own_back ?_ (own_len X0 hx hZ e0 V_B (g := (mkF m 2 #[.val (.ref aB), .val (.int (1 : Int32))] [(.ref aB), (.int (1 : Int32))])) rfl rfl (hb hby d9_2))
  show own_Go p e below PO (s₁.setTop (mkF m 3 #[.val (.ref aB), .val (.int (1 : Int32))] [(.int (4 : Int32)), (.int (1 : Int32))]))
  obtain ⟨_, _, ⟨T1, L1, k1, n1⟩, -, X1, ⟨Lc1, hQ1, l1, y1, z1⟩, st1⟩ := Jvm.LawKit.callS X0 hx (y := (⟨"java/lang/String", "checkIndex", "(II)V"⟩ : MethodName)) hown (mvT hZ (hw _ (List.mem_of_getElem? (i := 56) rfl))) (mvT hZ (hw _ (List.mem_of_getElem? (i := 57) rfl))) (mvT hZ (hw _ (List.mem_of_getElem? (i := 22) rfl))) (mvT hZ (hw _ (List.mem_of_getElem? (i := 58) rfl))) (by decide) (backOf (W := 0) (rmCI l Z a0 hw [] (1 : Int32) (4 : Int32) vF h0 n0 Z0 S_F hF (by decide) (by decide)) hZ (hw _ (List.mem_of_getElem? (i := 58) rfl)) (hw _ (List.mem_of_getElem? (i := 22) rfl)) (by decide) (by decide)) (g := (mkF m 3 #[.val (.ref aB), .val (.int (1 : Int32))] [(.int (4 : Int32)), (.int (1 : Int32))])) rfl (by rw [hml]; rfl) (argsL := [(.int (1 : Int32)), (.int (4 : Int32))]) (rest := []) (lenOf pd_3 rfl) rfl (by show 2 * 0 + _ ≤ _; exact Nat.le_of_eq rfl) (hb hby d9_3) (fun _ _ => ⟨rfl, e0, (by decide : 0 + 0 ≤ _), (by decide : 0 + 0 ≤ _)⟩)
  dsimp only [Pt.U, Pt.locs, Pt.cells, Pt.slots] at X1 l1 y1 z1 st1 hQ1
  subst l1 y1 z1
  obtain ⟨rfl, N1q, e1⟩ := hQ1
  have N1 := Fr.app N0 N1q
  refine own_back ?_ st1
  show own_Go p e below PO (T1.setTop (mkF m 6 #[.val (.ref aB), .val (.int (1 : Int32))] []))
  refine own_back ?_ (fun t k => XS.aloadN X1.here hx rfl (hb hby d9_6) rfl rfl k)
  show own_Go p e below PO (T1.setTop (mkF m 7 #[.val (.ref aB), .val (.int (1 : Int32))] [(.ref aB)]))
  refine own_back ?_ (fun t k => XS.iloadN X1.here hx rfl (hb hby d9_7) rfl k)
  show own_Go p e below PO (T1.setTop (mkF m 8 #[.val (.ref aB), .val (.int (1 : Int32))] [(.int (1 : Int32)), (.ref aB)]))
  refine own_back ?_ (own_ldB X1 hx hZ e1 V_B (j := (1 : Int32)) (v := (.int (82 : Int32))) ⟨by decide, by decide⟩ rfl (g := (mkF m 8 #[.val (.ref aB), .val (.int (1 : Int32))] [(.int (1 : Int32)), (.ref aB)])) rfl rfl (hb hby d9_8))
  show own_Go p e below PO (T1.setTop (mkF m 9 #[.val (.ref aB), .val (.int (1 : Int32))] [(.int (82 : Int32))]))
  refine own_back ?_ (fun t k => XS.sipush X1.here hx rfl (hb hby d9_9) k)
  show own_Go p e below PO (T1.setTop (mkF m 12 #[.val (.ref aB), .val (.int (1 : Int32))] [(.int (255 : Int32)), (.int (82 : Int32))]))
  refine own_back ?_ (fun t k => XS.iand X1.here hx rfl (hb hby d9_12) rfl k)
  show own_Go p e below PO (T1.setTop (mkF m 13 #[.val (.ref aB), .val (.int (1 : Int32))] [(.int (82 : Int32))]))
  refine own_back ?_ (fun t k => XS.i2c X1.here hx rfl (hb hby d9_13) rfl k)
  show own_Go p e below PO (T1.setTop (mkF m 14 #[.val (.ref aB), .val (.int (1 : Int32))] [(.int ((82 : Int32).toUInt32.toUInt16.toUInt32.toInt32))]))
  refine own_retN X1 hx (t := .char) (rest := []) Bd.returns (by decide) (by simp) (hb hby d9_14) e1 (Bd.notSynchronized) ?_ (by decide) (by decide)
  exact ⟨congrArg (fun z => some (Value.int z)) (by first | rfl | decide), N1, rfl⟩
theorem ef_rmCh_1_1 (m : MethodId) (x0 : Addr) (x1 : Int32) : entryFrame m #[(.ref x0), (.int x1)] 2 = mkF m 0 #[.val (.ref x0), .val (.int x1)] [] := by first | (simp [entryFrame, mkF, argsToLocals, Value.category]; done) | rfl
def Q_rmCh_1_1  (h0 : Heap) (n0 : Nat) (v : Option Value) (h : Heap) (L : List Loc) : Prop := v = some (.int (82 : Int32)) ∧ Fr n0 L ∧ h = h0
set_option maxRecDepth 65536 in
set_option maxHeartbeats 40000000 in
theorem rmCh_1_1 (l : Launch) (Z : State) (a0 : Array Value) (hw : ∀ d ∈ tables_1, d.before a0 Z = true) (ws : List Jvm.Cond) (aS : Addr) (aB : Addr) (kB : ClassId) (zC : Int32) (vF : Value)  (h0 : Heap) (n0 : Nat) (Z0 : n0 ≤ h0.size) (E_S : Exa Z h0 aS "java/lang/String") (F_c : Fld Z h0 aS "java/lang/String" "coder" "B" (.int 0)) (F_v : Fld Z h0 aS "java/lang/String" "value" "[B" (.ref aB)) (V_B : Arv Z h0 aB kB .byte (4 : Int32) [(.int (84 : Int32)), (.int (82 : Int32)), (.int (85 : Int32)), (.int (69 : Int32))] (.int 0)) (S_C : Sta Z h0 "java/lang/String" "COMPACT_STRINGS" "Z" (.int zC)) (nzC : ¬ zC = (0 : Int32)) (S_F : Sta Z h0 "jdk/internal/util/Preconditions" "SIOOBE_FORMATTER" "Ljava/util/function/BiFunction;" vF) (hF : vF.isRef = true)  :
    MetFree l (⟨"java/lang/String", "charAt", "(I)C"⟩ : MethodName) (head1 (Jvm.Cond.code (⟨"java/lang/String", "charAt", "(I)C"⟩ : MethodName) jdk_42_method_56_code 2 (some .char) :: ws) ({ frames := 3, cells := 0, slots := 0, locals := 40 } : Room)) (fun a U => a = #[(.ref aS), (.int (1 : Int32))] ∧ Z.Warmed39 U.vm ∧ U.heap = h0) (fun _ _ _ _ _ => True) (fun _ U o U' => ∃ v L, o = .returned v ∧ Q_rmCh_1_1  h0 n0 v U'.heap L ∧ FrameEnd U o U' L ({ frames := 3, cells := 0, slots := 0, locals := 40 } : Room).cells ({ frames := 3, cells := 0, slots := 0, locals := 40 } : Room).slots) := by
  refine MetFree.of_bodySF (plainFor_of_name pn_2) hisR ?_
  intro p e s m args below meth c s₁ Bd hml0 hP hK
  obtain ⟨rfl, hZ, hh⟩ := hP
  have hx := Bd.exec
  have hby := Bd.bytes
  have hml : c.maxLocals = 2 := hml0
  have hown : s.vm.findClass "java/lang/String" = some m.cls := findClass_of_methodNamed Bd.named
  have hnm := (name_of_methodNamed Bd.named Bd.method).1
  have X0 : Stand p l e ({ frames := 3, cells := 0, slots := 0, locals := 40 } : Room) s m #[(.ref aS), (.int (1 : Int32))] below meth c s₁ [] 0 0 := Stand.of_body Bd
  have e0 : s₁.heap = h0 := by rw [← hh, Bd.state]; rfl
  have N0 := Fr.nil n0
  let PO : Outcome → State → Prop := own_PO s (Q_rmCh_1_1  h0 n0) 0 0
  show own_Go p e below PO (s₁.setTop (entryFrame m #[(.ref aS), (.int (1 : Int32))] 2))
  rw [ef_rmCh_1_1]
  show own_Go p e below PO (s₁.setTop (mkF m 0 #[.val (.ref aS), .val (.int (1 : Int32))] []))
  refine own_back ?_ (fun t k => XS.aloadN X0.here hx rfl (hb hby d7_0) rfl rfl k)
  show own_Go p e below PO (s₁.setTop (mkF m 1 #[.val (.ref aS), .val (.int (1 : Int32))] [(.ref aS)]))
  obtain ⟨cq1, kq1, q1a, q1b, q1c⟩ := isOf hZ e0 E_S
  obtain ⟨_, _, ⟨T1, L1, k1, n1⟩, -, X1, ⟨Lc1, hQ1, l1, y1, z1⟩, st1⟩ := X0.virtualBack hx (y := (⟨"java/lang/String", "isLatin1", "()Z"⟩ : MethodName)) (z := (⟨"java/lang/String", "isLatin1", "()Z"⟩ : MethodName)) hown (mvT hZ (hw _ (List.mem_of_getElem? (i := 47) rfl))) (mvT hZ (hw _ (List.mem_of_getElem? (i := 48) rfl))) (notFace_of_selects (args := #[]) (mvT hZ (hw _ (List.mem_of_getElem? (i := 50) rfl)))) (mvT hZ (hw _ (List.mem_of_getElem? (i := 50) rfl))) (mvT hZ (hw _ (List.mem_of_getElem? (i := 49) rfl))) (by decide) (backOf (W := 0) (rm8 l Z a0 hw [] aS zC h0 n0 Z0 F_c S_C nzC) hZ (hw _ (List.mem_of_getElem? (i := 51) rfl)) (hw _ (List.mem_of_getElem? (i := 22) rfl)) (by decide) (by decide)) q1a q1c (g := (mkF m 1 #[.val (.ref aS), .val (.int (1 : Int32))] [(.ref aS)])) rfl (by rw [hml]; rfl) (Steps.refl _) (argsL := []) (rest := []) (lenOf pd_4 rfl) rfl (by show 2 * 0 + _ ≤ _; exact Nat.le_of_eq rfl) (hb hby d7_1) (fun _ _ => ⟨rfl, e0, (by decide : 0 + 0 ≤ _), (by decide : 0 + 0 ≤ _)⟩)
  dsimp only [Pt.U, Pt.locs, Pt.cells, Pt.slots] at X1 l1 y1 z1 st1 hQ1
  subst l1 y1 z1
  obtain ⟨rfl, N1q, e1⟩ := hQ1
  have N1 := Fr.app N0 N1q
  refine own_back ?_ (fun t k => st1.trans k)
  show own_Go p e below PO (T1.setTop (mkF m 4 #[.val (.ref aS), .val (.int (1 : Int32))] [(.int (1 : Int32))]))
  have hd4_2 : ¬ ((1 : Int32) = (0 : Int32)) := (by decide)
  refine own_back ?_ (fun t k => XS.ifNo X1.here hx rfl (hb hby d7_4) rfl ((if0 _ _).trans (feq hd4_2).1) k)
  show own_Go p e below PO (T1.setTop (mkF m 7 #[.val (.ref aS), .val (.int (1 : Int32))] []))
  refine own_back ?_ (fun t k => XS.aloadN X1.here hx rfl (hb hby d7_7) rfl rfl k)
  show own_Go p e below PO (T1.setTop (mkF m 8 #[.val (.ref aS), .val (.int (1 : Int32))] [(.ref aS)]))
  obtain ⟨T3, X3, e3, st3⟩ := getF X1 hx hZ hown (host := "") (Or.inl (hw _ (List.mem_of_getElem? (i := 34) rfl))) Via.refl e1 F_v (g := (mkF m 8 #[.val (.ref aS), .val (.int (1 : Int32))] [(.ref aS)])) rfl rfl (hb hby d7_8)
  refine own_back ?_ st3
  show own_Go p e below PO (T3.setTop (mkF m 11 #[.val (.ref aS), .val (.int (1 : Int32))] [(.ref aB)]))
  refine own_back ?_ (fun t k => XS.iloadN X3.here hx rfl (hb hby d7_11) rfl k)
  show own_Go p e below PO (T3.setTop (mkF m 12 #[.val (.ref aS), .val (.int (1 : Int32))] [(.int (1 : Int32)), (.ref aB)]))
  obtain ⟨_, _, ⟨T4, L4, k4, n4⟩, -, X4, ⟨Lc4, hQ4, l4, y4, z4⟩, st4⟩ := Jvm.LawKit.callS X3 hx (y := (⟨"java/lang/StringLatin1", "charAt", "([BI)C"⟩ : MethodName)) hown (mvT hZ (hw _ (List.mem_of_getElem? (i := 52) rfl))) (mvT hZ (hw _ (List.mem_of_getElem? (i := 53) rfl))) (mvT hZ (hw _ (List.mem_of_getElem? (i := 54) rfl))) (mvT hZ (hw _ (List.mem_of_getElem? (i := 55) rfl))) (by decide) (backOf (W := 0) (rmL_1_1 l Z a0 hw [] aB kB vF  h0 n0 Z0 V_B S_F hF ) hZ (hw _ (List.mem_of_getElem? (i := 55) rfl)) (hw _ (List.mem_of_getElem? (i := 54) rfl)) (by decide) (by decide)) (g := (mkF m 12 #[.val (.ref aS), .val (.int (1 : Int32))] [(.int (1 : Int32)), (.ref aB)])) rfl (by rw [hml]; rfl) (argsL := [(.ref aB), (.int (1 : Int32))]) (rest := []) (lenOf pd_5 rfl) rfl (by show 2 * 0 + _ ≤ _; exact Nat.le_of_eq rfl) (hb hby d7_12) (fun _ _ => ⟨rfl, e3, (by decide : 0 + 0 ≤ _), (by decide : 0 + 0 ≤ _)⟩)
  dsimp only [Pt.U, Pt.locs, Pt.cells, Pt.slots] at X4 l4 y4 z4 st4 hQ4
  subst l4 y4 z4
  obtain ⟨rfl, N4q, e4⟩ := hQ4
  have N4 := Fr.app N1 N4q
  refine own_back ?_ st4
  show own_Go p e below PO (T4.setTop (mkF m 15 #[.val (.ref aS), .val (.int (1 : Int32))] [(.int (82 : Int32))]))
  refine own_retN X4 hx (t := .char) (rest := []) Bd.returns (by decide) (by simp) (hb hby d7_15) e4 (Bd.notSynchronized) ?_ (by decide) (by decide)
  exact ⟨by first | rfl | decide, N4, rfl⟩
theorem ef_rmL_1_2 (m : MethodId) (x0 : Addr) (x1 : Int32) : entryFrame m #[(.ref x0), (.int x1)] 2 = mkF m 0 #[.val (.ref x0), .val (.int x1)] [] := by first | (simp [entryFrame, mkF, argsToLocals, Value.category]; done) | rfl
def Q_rmL_1_2  (h0 : Heap) (n0 : Nat) (v : Option Value) (h : Heap) (L : List Loc) : Prop := v = some (.int (85 : Int32)) ∧ Fr n0 L ∧ h = h0
set_option maxRecDepth 65536 in
set_option maxHeartbeats 40000000 in
theorem rmL_1_2 (l : Launch) (Z : State) (a0 : Array Value) (hw : ∀ d ∈ tables_1, d.before a0 Z = true) (ws : List Jvm.Cond) (aB : Addr) (kB : ClassId) (vF : Value)  (h0 : Heap) (n0 : Nat) (Z0 : n0 ≤ h0.size) (V_B : Arv Z h0 aB kB .byte (4 : Int32) [(.int (84 : Int32)), (.int (82 : Int32)), (.int (85 : Int32)), (.int (69 : Int32))] (.int 0)) (S_F : Sta Z h0 "jdk/internal/util/Preconditions" "SIOOBE_FORMATTER" "Ljava/util/function/BiFunction;" vF) (hF : vF.isRef = true)  :
    MetFree l (⟨"java/lang/StringLatin1", "charAt", "([BI)C"⟩ : MethodName) (head1 (Jvm.Cond.code (⟨"java/lang/StringLatin1", "charAt", "([BI)C"⟩ : MethodName) jdk_43_method_2_code 2 (some .char) :: ws) ({ frames := 2, cells := 0, slots := 0, locals := 27 } : Room)) (fun a U => a = #[(.ref aB), (.int (2 : Int32))] ∧ Z.Warmed39 U.vm ∧ U.heap = h0) (fun _ _ _ _ _ => True) (fun _ U o U' => ∃ v L, o = .returned v ∧ Q_rmL_1_2  h0 n0 v U'.heap L ∧ FrameEnd U o U' L ({ frames := 2, cells := 0, slots := 0, locals := 27 } : Room).cells ({ frames := 2, cells := 0, slots := 0, locals := 27 } : Room).slots) := by
  refine MetFree.of_bodySF (plainFor_of_name pn_4) hisR ?_
  intro p e s m args below meth c s₁ Bd hml0 hP hK
  obtain ⟨rfl, hZ, hh⟩ := hP
  have hx := Bd.exec
  have hby := Bd.bytes
  have hml : c.maxLocals = 2 := hml0
  have hown : s.vm.findClass "java/lang/StringLatin1" = some m.cls := findClass_of_methodNamed Bd.named
  have hnm := (name_of_methodNamed Bd.named Bd.method).1
  have X0 : Stand p l e ({ frames := 2, cells := 0, slots := 0, locals := 27 } : Room) s m #[(.ref aB), (.int (2 : Int32))] below meth c s₁ [] 0 0 := Stand.of_body Bd
  have e0 : s₁.heap = h0 := by rw [← hh, Bd.state]; rfl
  have N0 := Fr.nil n0
  let PO : Outcome → State → Prop := own_PO s (Q_rmL_1_2  h0 n0) 0 0
  show own_Go p e below PO (s₁.setTop (entryFrame m #[(.ref aB), (.int (2 : Int32))] 2))
  rw [ef_rmL_1_2]
  show own_Go p e below PO (s₁.setTop (mkF m 0 #[.val (.ref aB), .val (.int (2 : Int32))] []))
  refine own_back ?_ (fun t k => XS.iloadN X0.here hx rfl (hb hby d9_0) rfl k)
  show own_Go p e below PO (s₁.setTop (mkF m 1 #[.val (.ref aB), .val (.int (2 : Int32))] [(.int (2 : Int32))]))
  refine own_back ?_ (fun t k => XS.aloadN X0.here hx rfl (hb hby d9_1) rfl rfl k)
  show own_Go p e below PO (s₁.setTop (mkF m 2 #[.val (.ref aB), .val (.int (2 : Int32))] [(.ref aB), (.int (2 : Int32))]))
  refine own_back ?_ (own_len X0 hx hZ e0 V_B (g := (mkF m 2 #[.val (.ref aB), .val (.int (2 : Int32))] [(.ref aB), (.int (2 : Int32))])) rfl rfl (hb hby d9_2))
  show own_Go p e below PO (s₁.setTop (mkF m 3 #[.val (.ref aB), .val (.int (2 : Int32))] [(.int (4 : Int32)), (.int (2 : Int32))]))
  obtain ⟨_, _, ⟨T1, L1, k1, n1⟩, -, X1, ⟨Lc1, hQ1, l1, y1, z1⟩, st1⟩ := Jvm.LawKit.callS X0 hx (y := (⟨"java/lang/String", "checkIndex", "(II)V"⟩ : MethodName)) hown (mvT hZ (hw _ (List.mem_of_getElem? (i := 56) rfl))) (mvT hZ (hw _ (List.mem_of_getElem? (i := 57) rfl))) (mvT hZ (hw _ (List.mem_of_getElem? (i := 22) rfl))) (mvT hZ (hw _ (List.mem_of_getElem? (i := 58) rfl))) (by decide) (backOf (W := 0) (rmCI l Z a0 hw [] (2 : Int32) (4 : Int32) vF h0 n0 Z0 S_F hF (by decide) (by decide)) hZ (hw _ (List.mem_of_getElem? (i := 58) rfl)) (hw _ (List.mem_of_getElem? (i := 22) rfl)) (by decide) (by decide)) (g := (mkF m 3 #[.val (.ref aB), .val (.int (2 : Int32))] [(.int (4 : Int32)), (.int (2 : Int32))])) rfl (by rw [hml]; rfl) (argsL := [(.int (2 : Int32)), (.int (4 : Int32))]) (rest := []) (lenOf pd_3 rfl) rfl (by show 2 * 0 + _ ≤ _; exact Nat.le_of_eq rfl) (hb hby d9_3) (fun _ _ => ⟨rfl, e0, (by decide : 0 + 0 ≤ _), (by decide : 0 + 0 ≤ _)⟩)
  dsimp only [Pt.U, Pt.locs, Pt.cells, Pt.slots] at X1 l1 y1 z1 st1 hQ1
  subst l1 y1 z1
  obtain ⟨rfl, N1q, e1⟩ := hQ1
  have N1 := Fr.app N0 N1q
  refine own_back ?_ st1
  show own_Go p e below PO (T1.setTop (mkF m 6 #[.val (.ref aB), .val (.int (2 : Int32))] []))
  refine own_back ?_ (fun t k => XS.aloadN X1.here hx rfl (hb hby d9_6) rfl rfl k)
  show own_Go p e below PO (T1.setTop (mkF m 7 #[.val (.ref aB), .val (.int (2 : Int32))] [(.ref aB)]))
  refine own_back ?_ (fun t k => XS.iloadN X1.here hx rfl (hb hby d9_7) rfl k)
  show own_Go p e below PO (T1.setTop (mkF m 8 #[.val (.ref aB), .val (.int (2 : Int32))] [(.int (2 : Int32)), (.ref aB)]))
  refine own_back ?_ (own_ldB X1 hx hZ e1 V_B (j := (2 : Int32)) (v := (.int (85 : Int32))) ⟨by decide, by decide⟩ rfl (g := (mkF m 8 #[.val (.ref aB), .val (.int (2 : Int32))] [(.int (2 : Int32)), (.ref aB)])) rfl rfl (hb hby d9_8))
  show own_Go p e below PO (T1.setTop (mkF m 9 #[.val (.ref aB), .val (.int (2 : Int32))] [(.int (85 : Int32))]))
  refine own_back ?_ (fun t k => XS.sipush X1.here hx rfl (hb hby d9_9) k)
  show own_Go p e below PO (T1.setTop (mkF m 12 #[.val (.ref aB), .val (.int (2 : Int32))] [(.int (255 : Int32)), (.int (85 : Int32))]))
  refine own_back ?_ (fun t k => XS.iand X1.here hx rfl (hb hby d9_12) rfl k)
  show own_Go p e below PO (T1.setTop (mkF m 13 #[.val (.ref aB), .val (.int (2 : Int32))] [(.int (85 : Int32))]))
  refine own_back ?_ (fun t k => XS.i2c X1.here hx rfl (hb hby d9_13) rfl k)
  show own_Go p e below PO (T1.setTop (mkF m 14 #[.val (.ref aB), .val (.int (2 : Int32))] [(.int ((85 : Int32).toUInt32.toUInt16.toUInt32.toInt32))]))
  refine own_retN X1 hx (t := .char) (rest := []) Bd.returns (by decide) (by simp) (hb hby d9_14) e1 (Bd.notSynchronized) ?_ (by decide) (by decide)
  exact ⟨congrArg (fun z => some (Value.int z)) (by first | rfl | decide), N1, rfl⟩
theorem ef_rmCh_1_2 (m : MethodId) (x0 : Addr) (x1 : Int32) : entryFrame m #[(.ref x0), (.int x1)] 2 = mkF m 0 #[.val (.ref x0), .val (.int x1)] [] := by first | (simp [entryFrame, mkF, argsToLocals, Value.category]; done) | rfl
def Q_rmCh_1_2  (h0 : Heap) (n0 : Nat) (v : Option Value) (h : Heap) (L : List Loc) : Prop := v = some (.int (85 : Int32)) ∧ Fr n0 L ∧ h = h0
set_option maxRecDepth 65536 in
set_option maxHeartbeats 40000000 in
theorem rmCh_1_2 (l : Launch) (Z : State) (a0 : Array Value) (hw : ∀ d ∈ tables_1, d.before a0 Z = true) (ws : List Jvm.Cond) (aS : Addr) (aB : Addr) (kB : ClassId) (zC : Int32) (vF : Value)  (h0 : Heap) (n0 : Nat) (Z0 : n0 ≤ h0.size) (E_S : Exa Z h0 aS "java/lang/String") (F_c : Fld Z h0 aS "java/lang/String" "coder" "B" (.int 0)) (F_v : Fld Z h0 aS "java/lang/String" "value" "[B" (.ref aB)) (V_B : Arv Z h0 aB kB .byte (4 : Int32) [(.int (84 : Int32)), (.int (82 : Int32)), (.int (85 : Int32)), (.int (69 : Int32))] (.int 0)) (S_C : Sta Z h0 "java/lang/String" "COMPACT_STRINGS" "Z" (.int zC)) (nzC : ¬ zC = (0 : Int32)) (S_F : Sta Z h0 "jdk/internal/util/Preconditions" "SIOOBE_FORMATTER" "Ljava/util/function/BiFunction;" vF) (hF : vF.isRef = true)  :
    MetFree l (⟨"java/lang/String", "charAt", "(I)C"⟩ : MethodName) (head1 (Jvm.Cond.code (⟨"java/lang/String", "charAt", "(I)C"⟩ : MethodName) jdk_42_method_56_code 2 (some .char) :: ws) ({ frames := 3, cells := 0, slots := 0, locals := 40 } : Room)) (fun a U => a = #[(.ref aS), (.int (2 : Int32))] ∧ Z.Warmed39 U.vm ∧ U.heap = h0) (fun _ _ _ _ _ => True) (fun _ U o U' => ∃ v L, o = .returned v ∧ Q_rmCh_1_2  h0 n0 v U'.heap L ∧ FrameEnd U o U' L ({ frames := 3, cells := 0, slots := 0, locals := 40 } : Room).cells ({ frames := 3, cells := 0, slots := 0, locals := 40 } : Room).slots) := by
  refine MetFree.of_bodySF (plainFor_of_name pn_2) hisR ?_
  intro p e s m args below meth c s₁ Bd hml0 hP hK
  obtain ⟨rfl, hZ, hh⟩ := hP
  have hx := Bd.exec
  have hby := Bd.bytes
  have hml : c.maxLocals = 2 := hml0
  have hown : s.vm.findClass "java/lang/String" = some m.cls := findClass_of_methodNamed Bd.named
  have hnm := (name_of_methodNamed Bd.named Bd.method).1
  have X0 : Stand p l e ({ frames := 3, cells := 0, slots := 0, locals := 40 } : Room) s m #[(.ref aS), (.int (2 : Int32))] below meth c s₁ [] 0 0 := Stand.of_body Bd
  have e0 : s₁.heap = h0 := by rw [← hh, Bd.state]; rfl
  have N0 := Fr.nil n0
  let PO : Outcome → State → Prop := own_PO s (Q_rmCh_1_2  h0 n0) 0 0
  show own_Go p e below PO (s₁.setTop (entryFrame m #[(.ref aS), (.int (2 : Int32))] 2))
  rw [ef_rmCh_1_2]
  show own_Go p e below PO (s₁.setTop (mkF m 0 #[.val (.ref aS), .val (.int (2 : Int32))] []))
  refine own_back ?_ (fun t k => XS.aloadN X0.here hx rfl (hb hby d7_0) rfl rfl k)
  show own_Go p e below PO (s₁.setTop (mkF m 1 #[.val (.ref aS), .val (.int (2 : Int32))] [(.ref aS)]))
  obtain ⟨cq1, kq1, q1a, q1b, q1c⟩ := isOf hZ e0 E_S
  obtain ⟨_, _, ⟨T1, L1, k1, n1⟩, -, X1, ⟨Lc1, hQ1, l1, y1, z1⟩, st1⟩ := X0.virtualBack hx (y := (⟨"java/lang/String", "isLatin1", "()Z"⟩ : MethodName)) (z := (⟨"java/lang/String", "isLatin1", "()Z"⟩ : MethodName)) hown (mvT hZ (hw _ (List.mem_of_getElem? (i := 47) rfl))) (mvT hZ (hw _ (List.mem_of_getElem? (i := 48) rfl))) (notFace_of_selects (args := #[]) (mvT hZ (hw _ (List.mem_of_getElem? (i := 50) rfl)))) (mvT hZ (hw _ (List.mem_of_getElem? (i := 50) rfl))) (mvT hZ (hw _ (List.mem_of_getElem? (i := 49) rfl))) (by decide) (backOf (W := 0) (rm8 l Z a0 hw [] aS zC h0 n0 Z0 F_c S_C nzC) hZ (hw _ (List.mem_of_getElem? (i := 51) rfl)) (hw _ (List.mem_of_getElem? (i := 22) rfl)) (by decide) (by decide)) q1a q1c (g := (mkF m 1 #[.val (.ref aS), .val (.int (2 : Int32))] [(.ref aS)])) rfl (by rw [hml]; rfl) (Steps.refl _) (argsL := []) (rest := []) (lenOf pd_4 rfl) rfl (by show 2 * 0 + _ ≤ _; exact Nat.le_of_eq rfl) (hb hby d7_1) (fun _ _ => ⟨rfl, e0, (by decide : 0 + 0 ≤ _), (by decide : 0 + 0 ≤ _)⟩)
  dsimp only [Pt.U, Pt.locs, Pt.cells, Pt.slots] at X1 l1 y1 z1 st1 hQ1
  subst l1 y1 z1
  obtain ⟨rfl, N1q, e1⟩ := hQ1
  have N1 := Fr.app N0 N1q
  refine own_back ?_ (fun t k => st1.trans k)
  show own_Go p e below PO (T1.setTop (mkF m 4 #[.val (.ref aS), .val (.int (2 : Int32))] [(.int (1 : Int32))]))
  have hd4_2 : ¬ ((1 : Int32) = (0 : Int32)) := (by decide)
  refine own_back ?_ (fun t k => XS.ifNo X1.here hx rfl (hb hby d7_4) rfl ((if0 _ _).trans (feq hd4_2).1) k)
  show own_Go p e below PO (T1.setTop (mkF m 7 #[.val (.ref aS), .val (.int (2 : Int32))] []))
  refine own_back ?_ (fun t k => XS.aloadN X1.here hx rfl (hb hby d7_7) rfl rfl k)
  show own_Go p e below PO (T1.setTop (mkF m 8 #[.val (.ref aS), .val (.int (2 : Int32))] [(.ref aS)]))
  obtain ⟨T3, X3, e3, st3⟩ := getF X1 hx hZ hown (host := "") (Or.inl (hw _ (List.mem_of_getElem? (i := 34) rfl))) Via.refl e1 F_v (g := (mkF m 8 #[.val (.ref aS), .val (.int (2 : Int32))] [(.ref aS)])) rfl rfl (hb hby d7_8)
  refine own_back ?_ st3
  show own_Go p e below PO (T3.setTop (mkF m 11 #[.val (.ref aS), .val (.int (2 : Int32))] [(.ref aB)]))
  refine own_back ?_ (fun t k => XS.iloadN X3.here hx rfl (hb hby d7_11) rfl k)
  show own_Go p e below PO (T3.setTop (mkF m 12 #[.val (.ref aS), .val (.int (2 : Int32))] [(.int (2 : Int32)), (.ref aB)]))
  obtain ⟨_, _, ⟨T4, L4, k4, n4⟩, -, X4, ⟨Lc4, hQ4, l4, y4, z4⟩, st4⟩ := Jvm.LawKit.callS X3 hx (y := (⟨"java/lang/StringLatin1", "charAt", "([BI)C"⟩ : MethodName)) hown (mvT hZ (hw _ (List.mem_of_getElem? (i := 52) rfl))) (mvT hZ (hw _ (List.mem_of_getElem? (i := 53) rfl))) (mvT hZ (hw _ (List.mem_of_getElem? (i := 54) rfl))) (mvT hZ (hw _ (List.mem_of_getElem? (i := 55) rfl))) (by decide) (backOf (W := 0) (rmL_1_2 l Z a0 hw [] aB kB vF  h0 n0 Z0 V_B S_F hF ) hZ (hw _ (List.mem_of_getElem? (i := 55) rfl)) (hw _ (List.mem_of_getElem? (i := 54) rfl)) (by decide) (by decide)) (g := (mkF m 12 #[.val (.ref aS), .val (.int (2 : Int32))] [(.int (2 : Int32)), (.ref aB)])) rfl (by rw [hml]; rfl) (argsL := [(.ref aB), (.int (2 : Int32))]) (rest := []) (lenOf pd_5 rfl) rfl (by show 2 * 0 + _ ≤ _; exact Nat.le_of_eq rfl) (hb hby d7_12) (fun _ _ => ⟨rfl, e3, (by decide : 0 + 0 ≤ _), (by decide : 0 + 0 ≤ _)⟩)
  dsimp only [Pt.U, Pt.locs, Pt.cells, Pt.slots] at X4 l4 y4 z4 st4 hQ4
  subst l4 y4 z4
  obtain ⟨rfl, N4q, e4⟩ := hQ4
  have N4 := Fr.app N1 N4q
  refine own_back ?_ st4
  show own_Go p e below PO (T4.setTop (mkF m 15 #[.val (.ref aS), .val (.int (2 : Int32))] [(.int (85 : Int32))]))
  refine own_retN X4 hx (t := .char) (rest := []) Bd.returns (by decide) (by simp) (hb hby d7_15) e4 (Bd.notSynchronized) ?_ (by decide) (by decide)
  exact ⟨by first | rfl | decide, N4, rfl⟩
theorem ef_rmL_1_3 (m : MethodId) (x0 : Addr) (x1 : Int32) : entryFrame m #[(.ref x0), (.int x1)] 2 = mkF m 0 #[.val (.ref x0), .val (.int x1)] [] := by first | (simp [entryFrame, mkF, argsToLocals, Value.category]; done) | rfl
def Q_rmL_1_3  (h0 : Heap) (n0 : Nat) (v : Option Value) (h : Heap) (L : List Loc) : Prop := v = some (.int (69 : Int32)) ∧ Fr n0 L ∧ h = h0
set_option maxRecDepth 65536 in
set_option maxHeartbeats 40000000 in
theorem rmL_1_3 (l : Launch) (Z : State) (a0 : Array Value) (hw : ∀ d ∈ tables_1, d.before a0 Z = true) (ws : List Jvm.Cond) (aB : Addr) (kB : ClassId) (vF : Value)  (h0 : Heap) (n0 : Nat) (Z0 : n0 ≤ h0.size) (V_B : Arv Z h0 aB kB .byte (4 : Int32) [(.int (84 : Int32)), (.int (82 : Int32)), (.int (85 : Int32)), (.int (69 : Int32))] (.int 0)) (S_F : Sta Z h0 "jdk/internal/util/Preconditions" "SIOOBE_FORMATTER" "Ljava/util/function/BiFunction;" vF) (hF : vF.isRef = true)  :
    MetFree l (⟨"java/lang/StringLatin1", "charAt", "([BI)C"⟩ : MethodName) (head1 (Jvm.Cond.code (⟨"java/lang/StringLatin1", "charAt", "([BI)C"⟩ : MethodName) jdk_43_method_2_code 2 (some .char) :: ws) ({ frames := 2, cells := 0, slots := 0, locals := 27 } : Room)) (fun a U => a = #[(.ref aB), (.int (3 : Int32))] ∧ Z.Warmed39 U.vm ∧ U.heap = h0) (fun _ _ _ _ _ => True) (fun _ U o U' => ∃ v L, o = .returned v ∧ Q_rmL_1_3  h0 n0 v U'.heap L ∧ FrameEnd U o U' L ({ frames := 2, cells := 0, slots := 0, locals := 27 } : Room).cells ({ frames := 2, cells := 0, slots := 0, locals := 27 } : Room).slots) := by
  refine MetFree.of_bodySF (plainFor_of_name pn_4) hisR ?_
  intro p e s m args below meth c s₁ Bd hml0 hP hK
  obtain ⟨rfl, hZ, hh⟩ := hP
  have hx := Bd.exec
  have hby := Bd.bytes
  have hml : c.maxLocals = 2 := hml0
  have hown : s.vm.findClass "java/lang/StringLatin1" = some m.cls := findClass_of_methodNamed Bd.named
  have hnm := (name_of_methodNamed Bd.named Bd.method).1
  have X0 : Stand p l e ({ frames := 2, cells := 0, slots := 0, locals := 27 } : Room) s m #[(.ref aB), (.int (3 : Int32))] below meth c s₁ [] 0 0 := Stand.of_body Bd
  have e0 : s₁.heap = h0 := by rw [← hh, Bd.state]; rfl
  have N0 := Fr.nil n0
  let PO : Outcome → State → Prop := own_PO s (Q_rmL_1_3  h0 n0) 0 0
  show own_Go p e below PO (s₁.setTop (entryFrame m #[(.ref aB), (.int (3 : Int32))] 2))
  rw [ef_rmL_1_3]
  show own_Go p e below PO (s₁.setTop (mkF m 0 #[.val (.ref aB), .val (.int (3 : Int32))] []))
  refine own_back ?_ (fun t k => XS.iloadN X0.here hx rfl (hb hby d9_0) rfl k)
  show own_Go p e below PO (s₁.setTop (mkF m 1 #[.val (.ref aB), .val (.int (3 : Int32))] [(.int (3 : Int32))]))
  refine own_back ?_ (fun t k => XS.aloadN X0.here hx rfl (hb hby d9_1) rfl rfl k)
  show own_Go p e below PO (s₁.setTop (mkF m 2 #[.val (.ref aB), .val (.int (3 : Int32))] [(.ref aB), (.int (3 : Int32))]))
  refine own_back ?_ (own_len X0 hx hZ e0 V_B (g := (mkF m 2 #[.val (.ref aB), .val (.int (3 : Int32))] [(.ref aB), (.int (3 : Int32))])) rfl rfl (hb hby d9_2))
  show own_Go p e below PO (s₁.setTop (mkF m 3 #[.val (.ref aB), .val (.int (3 : Int32))] [(.int (4 : Int32)), (.int (3 : Int32))]))
  obtain ⟨_, _, ⟨T1, L1, k1, n1⟩, -, X1, ⟨Lc1, hQ1, l1, y1, z1⟩, st1⟩ := Jvm.LawKit.callS X0 hx (y := (⟨"java/lang/String", "checkIndex", "(II)V"⟩ : MethodName)) hown (mvT hZ (hw _ (List.mem_of_getElem? (i := 56) rfl))) (mvT hZ (hw _ (List.mem_of_getElem? (i := 57) rfl))) (mvT hZ (hw _ (List.mem_of_getElem? (i := 22) rfl))) (mvT hZ (hw _ (List.mem_of_getElem? (i := 58) rfl))) (by decide) (backOf (W := 0) (rmCI l Z a0 hw [] (3 : Int32) (4 : Int32) vF h0 n0 Z0 S_F hF (by decide) (by decide)) hZ (hw _ (List.mem_of_getElem? (i := 58) rfl)) (hw _ (List.mem_of_getElem? (i := 22) rfl)) (by decide) (by decide)) (g := (mkF m 3 #[.val (.ref aB), .val (.int (3 : Int32))] [(.int (4 : Int32)), (.int (3 : Int32))])) rfl (by rw [hml]; rfl) (argsL := [(.int (3 : Int32)), (.int (4 : Int32))]) (rest := []) (lenOf pd_3 rfl) rfl (by show 2 * 0 + _ ≤ _; exact Nat.le_of_eq rfl) (hb hby d9_3) (fun _ _ => ⟨rfl, e0, (by decide : 0 + 0 ≤ _), (by decide : 0 + 0 ≤ _)⟩)
  dsimp only [Pt.U, Pt.locs, Pt.cells, Pt.slots] at X1 l1 y1 z1 st1 hQ1
  subst l1 y1 z1
  obtain ⟨rfl, N1q, e1⟩ := hQ1
  have N1 := Fr.app N0 N1q
  refine own_back ?_ st1
  show own_Go p e below PO (T1.setTop (mkF m 6 #[.val (.ref aB), .val (.int (3 : Int32))] []))
  refine own_back ?_ (fun t k => XS.aloadN X1.here hx rfl (hb hby d9_6) rfl rfl k)
  show own_Go p e below PO (T1.setTop (mkF m 7 #[.val (.ref aB), .val (.int (3 : Int32))] [(.ref aB)]))
  refine own_back ?_ (fun t k => XS.iloadN X1.here hx rfl (hb hby d9_7) rfl k)
  show own_Go p e below PO (T1.setTop (mkF m 8 #[.val (.ref aB), .val (.int (3 : Int32))] [(.int (3 : Int32)), (.ref aB)]))
  refine own_back ?_ (own_ldB X1 hx hZ e1 V_B (j := (3 : Int32)) (v := (.int (69 : Int32))) ⟨by decide, by decide⟩ rfl (g := (mkF m 8 #[.val (.ref aB), .val (.int (3 : Int32))] [(.int (3 : Int32)), (.ref aB)])) rfl rfl (hb hby d9_8))
  show own_Go p e below PO (T1.setTop (mkF m 9 #[.val (.ref aB), .val (.int (3 : Int32))] [(.int (69 : Int32))]))
  refine own_back ?_ (fun t k => XS.sipush X1.here hx rfl (hb hby d9_9) k)
  show own_Go p e below PO (T1.setTop (mkF m 12 #[.val (.ref aB), .val (.int (3 : Int32))] [(.int (255 : Int32)), (.int (69 : Int32))]))
  refine own_back ?_ (fun t k => XS.iand X1.here hx rfl (hb hby d9_12) rfl k)
  show own_Go p e below PO (T1.setTop (mkF m 13 #[.val (.ref aB), .val (.int (3 : Int32))] [(.int (69 : Int32))]))
  refine own_back ?_ (fun t k => XS.i2c X1.here hx rfl (hb hby d9_13) rfl k)
  show own_Go p e below PO (T1.setTop (mkF m 14 #[.val (.ref aB), .val (.int (3 : Int32))] [(.int ((69 : Int32).toUInt32.toUInt16.toUInt32.toInt32))]))
  refine own_retN X1 hx (t := .char) (rest := []) Bd.returns (by decide) (by simp) (hb hby d9_14) e1 (Bd.notSynchronized) ?_ (by decide) (by decide)
  exact ⟨congrArg (fun z => some (Value.int z)) (by first | rfl | decide), N1, rfl⟩
theorem ef_rmCh_1_3 (m : MethodId) (x0 : Addr) (x1 : Int32) : entryFrame m #[(.ref x0), (.int x1)] 2 = mkF m 0 #[.val (.ref x0), .val (.int x1)] [] := by first | (simp [entryFrame, mkF, argsToLocals, Value.category]; done) | rfl
def Q_rmCh_1_3  (h0 : Heap) (n0 : Nat) (v : Option Value) (h : Heap) (L : List Loc) : Prop := v = some (.int (69 : Int32)) ∧ Fr n0 L ∧ h = h0
set_option maxRecDepth 65536 in
set_option maxHeartbeats 40000000 in
theorem rmCh_1_3 (l : Launch) (Z : State) (a0 : Array Value) (hw : ∀ d ∈ tables_1, d.before a0 Z = true) (ws : List Jvm.Cond) (aS : Addr) (aB : Addr) (kB : ClassId) (zC : Int32) (vF : Value)  (h0 : Heap) (n0 : Nat) (Z0 : n0 ≤ h0.size) (E_S : Exa Z h0 aS "java/lang/String") (F_c : Fld Z h0 aS "java/lang/String" "coder" "B" (.int 0)) (F_v : Fld Z h0 aS "java/lang/String" "value" "[B" (.ref aB)) (V_B : Arv Z h0 aB kB .byte (4 : Int32) [(.int (84 : Int32)), (.int (82 : Int32)), (.int (85 : Int32)), (.int (69 : Int32))] (.int 0)) (S_C : Sta Z h0 "java/lang/String" "COMPACT_STRINGS" "Z" (.int zC)) (nzC : ¬ zC = (0 : Int32)) (S_F : Sta Z h0 "jdk/internal/util/Preconditions" "SIOOBE_FORMATTER" "Ljava/util/function/BiFunction;" vF) (hF : vF.isRef = true)  :
    MetFree l (⟨"java/lang/String", "charAt", "(I)C"⟩ : MethodName) (head1 (Jvm.Cond.code (⟨"java/lang/String", "charAt", "(I)C"⟩ : MethodName) jdk_42_method_56_code 2 (some .char) :: ws) ({ frames := 3, cells := 0, slots := 0, locals := 40 } : Room)) (fun a U => a = #[(.ref aS), (.int (3 : Int32))] ∧ Z.Warmed39 U.vm ∧ U.heap = h0) (fun _ _ _ _ _ => True) (fun _ U o U' => ∃ v L, o = .returned v ∧ Q_rmCh_1_3  h0 n0 v U'.heap L ∧ FrameEnd U o U' L ({ frames := 3, cells := 0, slots := 0, locals := 40 } : Room).cells ({ frames := 3, cells := 0, slots := 0, locals := 40 } : Room).slots) := by
  refine MetFree.of_bodySF (plainFor_of_name pn_2) hisR ?_
  intro p e s m args below meth c s₁ Bd hml0 hP hK
  obtain ⟨rfl, hZ, hh⟩ := hP
  have hx := Bd.exec
  have hby := Bd.bytes
  have hml : c.maxLocals = 2 := hml0
  have hown : s.vm.findClass "java/lang/String" = some m.cls := findClass_of_methodNamed Bd.named
  have hnm := (name_of_methodNamed Bd.named Bd.method).1
  have X0 : Stand p l e ({ frames := 3, cells := 0, slots := 0, locals := 40 } : Room) s m #[(.ref aS), (.int (3 : Int32))] below meth c s₁ [] 0 0 := Stand.of_body Bd
  have e0 : s₁.heap = h0 := by rw [← hh, Bd.state]; rfl
  have N0 := Fr.nil n0
  let PO : Outcome → State → Prop := own_PO s (Q_rmCh_1_3  h0 n0) 0 0
  show own_Go p e below PO (s₁.setTop (entryFrame m #[(.ref aS), (.int (3 : Int32))] 2))
  rw [ef_rmCh_1_3]
  show own_Go p e below PO (s₁.setTop (mkF m 0 #[.val (.ref aS), .val (.int (3 : Int32))] []))
  refine own_back ?_ (fun t k => XS.aloadN X0.here hx rfl (hb hby d7_0) rfl rfl k)
  show own_Go p e below PO (s₁.setTop (mkF m 1 #[.val (.ref aS), .val (.int (3 : Int32))] [(.ref aS)]))
  obtain ⟨cq1, kq1, q1a, q1b, q1c⟩ := isOf hZ e0 E_S
  obtain ⟨_, _, ⟨T1, L1, k1, n1⟩, -, X1, ⟨Lc1, hQ1, l1, y1, z1⟩, st1⟩ := X0.virtualBack hx (y := (⟨"java/lang/String", "isLatin1", "()Z"⟩ : MethodName)) (z := (⟨"java/lang/String", "isLatin1", "()Z"⟩ : MethodName)) hown (mvT hZ (hw _ (List.mem_of_getElem? (i := 47) rfl))) (mvT hZ (hw _ (List.mem_of_getElem? (i := 48) rfl))) (notFace_of_selects (args := #[]) (mvT hZ (hw _ (List.mem_of_getElem? (i := 50) rfl)))) (mvT hZ (hw _ (List.mem_of_getElem? (i := 50) rfl))) (mvT hZ (hw _ (List.mem_of_getElem? (i := 49) rfl))) (by decide) (backOf (W := 0) (rm8 l Z a0 hw [] aS zC h0 n0 Z0 F_c S_C nzC) hZ (hw _ (List.mem_of_getElem? (i := 51) rfl)) (hw _ (List.mem_of_getElem? (i := 22) rfl)) (by decide) (by decide)) q1a q1c (g := (mkF m 1 #[.val (.ref aS), .val (.int (3 : Int32))] [(.ref aS)])) rfl (by rw [hml]; rfl) (Steps.refl _) (argsL := []) (rest := []) (lenOf pd_4 rfl) rfl (by show 2 * 0 + _ ≤ _; exact Nat.le_of_eq rfl) (hb hby d7_1) (fun _ _ => ⟨rfl, e0, (by decide : 0 + 0 ≤ _), (by decide : 0 + 0 ≤ _)⟩)
  dsimp only [Pt.U, Pt.locs, Pt.cells, Pt.slots] at X1 l1 y1 z1 st1 hQ1
  subst l1 y1 z1
  obtain ⟨rfl, N1q, e1⟩ := hQ1
  have N1 := Fr.app N0 N1q
  refine own_back ?_ (fun t k => st1.trans k)
  show own_Go p e below PO (T1.setTop (mkF m 4 #[.val (.ref aS), .val (.int (3 : Int32))] [(.int (1 : Int32))]))
  have hd4_2 : ¬ ((1 : Int32) = (0 : Int32)) := (by decide)
  refine own_back ?_ (fun t k => XS.ifNo X1.here hx rfl (hb hby d7_4) rfl ((if0 _ _).trans (feq hd4_2).1) k)
  show own_Go p e below PO (T1.setTop (mkF m 7 #[.val (.ref aS), .val (.int (3 : Int32))] []))
  refine own_back ?_ (fun t k => XS.aloadN X1.here hx rfl (hb hby d7_7) rfl rfl k)
  show own_Go p e below PO (T1.setTop (mkF m 8 #[.val (.ref aS), .val (.int (3 : Int32))] [(.ref aS)]))
  obtain ⟨T3, X3, e3, st3⟩ := getF X1 hx hZ hown (host := "") (Or.inl (hw _ (List.mem_of_getElem? (i := 34) rfl))) Via.refl e1 F_v (g := (mkF m 8 #[.val (.ref aS), .val (.int (3 : Int32))] [(.ref aS)])) rfl rfl (hb hby d7_8)
  refine own_back ?_ st3
  show own_Go p e below PO (T3.setTop (mkF m 11 #[.val (.ref aS), .val (.int (3 : Int32))] [(.ref aB)]))
  refine own_back ?_ (fun t k => XS.iloadN X3.here hx rfl (hb hby d7_11) rfl k)
  show own_Go p e below PO (T3.setTop (mkF m 12 #[.val (.ref aS), .val (.int (3 : Int32))] [(.int (3 : Int32)), (.ref aB)]))
  obtain ⟨_, _, ⟨T4, L4, k4, n4⟩, -, X4, ⟨Lc4, hQ4, l4, y4, z4⟩, st4⟩ := Jvm.LawKit.callS X3 hx (y := (⟨"java/lang/StringLatin1", "charAt", "([BI)C"⟩ : MethodName)) hown (mvT hZ (hw _ (List.mem_of_getElem? (i := 52) rfl))) (mvT hZ (hw _ (List.mem_of_getElem? (i := 53) rfl))) (mvT hZ (hw _ (List.mem_of_getElem? (i := 54) rfl))) (mvT hZ (hw _ (List.mem_of_getElem? (i := 55) rfl))) (by decide) (backOf (W := 0) (rmL_1_3 l Z a0 hw [] aB kB vF  h0 n0 Z0 V_B S_F hF ) hZ (hw _ (List.mem_of_getElem? (i := 55) rfl)) (hw _ (List.mem_of_getElem? (i := 54) rfl)) (by decide) (by decide)) (g := (mkF m 12 #[.val (.ref aS), .val (.int (3 : Int32))] [(.int (3 : Int32)), (.ref aB)])) rfl (by rw [hml]; rfl) (argsL := [(.ref aB), (.int (3 : Int32))]) (rest := []) (lenOf pd_5 rfl) rfl (by show 2 * 0 + _ ≤ _; exact Nat.le_of_eq rfl) (hb hby d7_12) (fun _ _ => ⟨rfl, e3, (by decide : 0 + 0 ≤ _), (by decide : 0 + 0 ≤ _)⟩)
  dsimp only [Pt.U, Pt.locs, Pt.cells, Pt.slots] at X4 l4 y4 z4 st4 hQ4
  subst l4 y4 z4
  obtain ⟨rfl, N4q, e4⟩ := hQ4
  have N4 := Fr.app N1 N4q
  refine own_back ?_ st4
  show own_Go p e below PO (T4.setTop (mkF m 15 #[.val (.ref aS), .val (.int (3 : Int32))] [(.int (69 : Int32))]))
  refine own_retN X4 hx (t := .char) (rest := []) Bd.returns (by decide) (by simp) (hb hby d7_15) e4 (Bd.notSynchronized) ?_ (by decide) (by decide)
  exact ⟨by first | rfl | decide, N4, rfl⟩
theorem ef_rmLen_0 (m : MethodId) (x0 : Addr) : entryFrame m #[(.ref x0)] 1 = mkF m 0 #[.val (.ref x0)] [] := by first | (simp [entryFrame, mkF, argsToLocals, Value.category]; done) | rfl
def Q_rmLen_0 (h0 : Heap) (n0 : Nat) (v : Option Value) (h : Heap) (L : List Loc) : Prop := v = some (.int 5) ∧ Fr n0 L ∧ h = h0
set_option maxRecDepth 65536 in
set_option maxHeartbeats 40000000 in
theorem rmLen_0 (l : Launch) (Z : State) (a0 : Array Value) (hw : ∀ d ∈ tables_1, d.before a0 Z = true) (ws : List Jvm.Cond) (aS : Addr) (aB : Addr) (kB : ClassId) (zC : Int32)  (h0 : Heap) (n0 : Nat) (Z0 : n0 ≤ h0.size) (E_S : Exa Z h0 aS "java/lang/String") (F_c : Fld Z h0 aS "java/lang/String" "coder" "B" (.int 0)) (F_v : Fld Z h0 aS "java/lang/String" "value" "[B" (.ref aB)) (V_B : Arv Z h0 aB kB .byte (5 : Int32) [(.int (70 : Int32)), (.int (65 : Int32)), (.int (76 : Int32)), (.int (83 : Int32)), (.int (69 : Int32))] (.int 0)) (S_C : Sta Z h0 "java/lang/String" "COMPACT_STRINGS" "Z" (.int zC)) (nzC : ¬ zC = (0 : Int32)) :
    MetFree l (⟨"java/lang/String", "length", "()I"⟩ : MethodName) (head1 (Jvm.Cond.code (⟨"java/lang/String", "length", "()I"⟩ : MethodName) jdk_42_method_54_code 1 (some .int) :: ws) ({ frames := 1, cells := 0, slots := 0, locals := 13 } : Room)) (fun a U => a = #[(.ref aS)] ∧ Z.Warmed39 U.vm ∧ U.heap = h0) (fun _ _ _ _ _ => True) (fun _ U o U' => ∃ v L, o = .returned v ∧ Q_rmLen_0 h0 n0 v U'.heap L ∧ FrameEnd U o U' L ({ frames := 1, cells := 0, slots := 0, locals := 13 } : Room).cells ({ frames := 1, cells := 0, slots := 0, locals := 13 } : Room).slots) := by
  refine MetFree.of_bodySF (plainFor_of_name pn_2) hisR ?_
  intro p e s m args below meth c s₁ Bd hml0 hP hK
  obtain ⟨rfl, hZ, hh⟩ := hP
  have hx := Bd.exec
  have hby := Bd.bytes
  have hml : c.maxLocals = 1 := hml0
  have hown : s.vm.findClass "java/lang/String" = some m.cls := findClass_of_methodNamed Bd.named
  have hnm := (name_of_methodNamed Bd.named Bd.method).1
  have X0 : Stand p l e ({ frames := 1, cells := 0, slots := 0, locals := 13 } : Room) s m #[(.ref aS)] below meth c s₁ [] 0 0 := Stand.of_body Bd
  have e0 : s₁.heap = h0 := by rw [← hh, Bd.state]; rfl
  have N0 := Fr.nil n0
  let PO : Outcome → State → Prop := own_PO s (Q_rmLen_0 h0 n0) 0 0
  show own_Go p e below PO (s₁.setTop (entryFrame m #[(.ref aS)] 1))
  rw [ef_rmLen_0]
  show own_Go p e below PO (s₁.setTop (mkF m 0 #[.val (.ref aS)] []))
  refine own_back ?_ (fun t k => XS.aloadN X0.here hx rfl (hb hby d5_0) rfl rfl k)
  show own_Go p e below PO (s₁.setTop (mkF m 1 #[.val (.ref aS)] [(.ref aS)]))
  obtain ⟨T1, X1, e1, st1⟩ := getF X0 hx hZ hown (host := "") (Or.inl (hw _ (List.mem_of_getElem? (i := 34) rfl))) Via.refl e0 F_v (g := (mkF m 1 #[.val (.ref aS)] [(.ref aS)])) rfl rfl (hb hby d5_1)
  refine own_back ?_ st1
  show own_Go p e below PO (T1.setTop (mkF m 4 #[.val (.ref aS)] [(.ref aB)]))
  refine own_back ?_ (own_len X1 hx hZ e1 V_B (g := (mkF m 4 #[.val (.ref aS)] [(.ref aB)])) rfl rfl (hb hby d5_4))
  show own_Go p e below PO (T1.setTop (mkF m 5 #[.val (.ref aS)] [(.int (5 : Int32))]))
  refine own_back ?_ (fun t k => XS.aloadN X1.here hx rfl (hb hby d5_5) rfl rfl k)
  show own_Go p e below PO (T1.setTop (mkF m 6 #[.val (.ref aS)] [(.ref aS), (.int (5 : Int32))]))
  obtain ⟨cq2, kq2, q2a, q2b, q2c⟩ := isOf hZ e1 E_S
  obtain ⟨_, _, ⟨T2, L2, k2, n2⟩, -, X2, ⟨Lc2, hQ2, l2, y2, z2⟩, st2⟩ := X1.virtualBack hx (y := (⟨"java/lang/String", "coder", "()B"⟩ : MethodName)) (z := (⟨"java/lang/String", "coder", "()B"⟩ : MethodName)) hown (mvT hZ (hw _ (List.mem_of_getElem? (i := 35) rfl))) (mvT hZ (hw _ (List.mem_of_getElem? (i := 36) rfl))) (notFace_of_selects (args := #[]) (mvT hZ (hw _ (List.mem_of_getElem? (i := 38) rfl)))) (mvT hZ (hw _ (List.mem_of_getElem? (i := 38) rfl))) (mvT hZ (hw _ (List.mem_of_getElem? (i := 37) rfl))) (by decide) (backOf (W := 1) (rm6 l Z a0 hw [] aS zC h0 n0 Z0 F_c S_C nzC) hZ (hw _ (List.mem_of_getElem? (i := 39) rfl)) (hw _ (List.mem_of_getElem? (i := 22) rfl)) (by decide) (by decide)) q2a q2c (g := (mkF m 6 #[.val (.ref aS)] [(.ref aS), (.int (5 : Int32))])) rfl (by rw [hml]; rfl) (Steps.refl _) (argsL := []) (rest := [(.int (5 : Int32))]) (lenOf pd_2 rfl) rfl (by show 2 * 0 + _ ≤ _; exact Nat.le_of_eq rfl) (hb hby d5_6) (fun _ _ => ⟨rfl, e1, (by decide : 0 + 0 ≤ _), (by decide : 0 + 0 ≤ _)⟩)
  dsimp only [Pt.U, Pt.locs, Pt.cells, Pt.slots] at X2 l2 y2 z2 st2 hQ2
  subst l2 y2 z2
  obtain ⟨rfl, N2q, e2⟩ := hQ2
  have N2 := Fr.app N0 N2q
  refine own_back ?_ (fun t k => st2.trans k)
  show own_Go p e below PO (T2.setTop (mkF m 9 #[.val (.ref aS)] [(.int (0 : Int32)), (.int (5 : Int32))]))
  refine own_back ?_ (fun t k => XS.ishr X2.here hx rfl (hb hby d5_9) rfl k)
  show own_Go p e below PO (T2.setTop (mkF m 10 #[.val (.ref aS)] [(.int ((5 : Int32) >>> ((0 : Int32) &&& 31)))]))
  refine own_retI X2 hx (rest := []) Bd.returns (hb hby d5_10) e2 (Bd.notSynchronized) ?_ (by decide) (by decide)
  exact ⟨by first | rfl | decide, N2, rfl⟩
theorem ef_rmL_0_0 (m : MethodId) (x0 : Addr) (x1 : Int32) : entryFrame m #[(.ref x0), (.int x1)] 2 = mkF m 0 #[.val (.ref x0), .val (.int x1)] [] := by first | (simp [entryFrame, mkF, argsToLocals, Value.category]; done) | rfl
def Q_rmL_0_0  (h0 : Heap) (n0 : Nat) (v : Option Value) (h : Heap) (L : List Loc) : Prop := v = some (.int (70 : Int32)) ∧ Fr n0 L ∧ h = h0
set_option maxRecDepth 65536 in
set_option maxHeartbeats 40000000 in
theorem rmL_0_0 (l : Launch) (Z : State) (a0 : Array Value) (hw : ∀ d ∈ tables_1, d.before a0 Z = true) (ws : List Jvm.Cond) (aB : Addr) (kB : ClassId) (vF : Value)  (h0 : Heap) (n0 : Nat) (Z0 : n0 ≤ h0.size) (V_B : Arv Z h0 aB kB .byte (5 : Int32) [(.int (70 : Int32)), (.int (65 : Int32)), (.int (76 : Int32)), (.int (83 : Int32)), (.int (69 : Int32))] (.int 0)) (S_F : Sta Z h0 "jdk/internal/util/Preconditions" "SIOOBE_FORMATTER" "Ljava/util/function/BiFunction;" vF) (hF : vF.isRef = true)  :
    MetFree l (⟨"java/lang/StringLatin1", "charAt", "([BI)C"⟩ : MethodName) (head1 (Jvm.Cond.code (⟨"java/lang/StringLatin1", "charAt", "([BI)C"⟩ : MethodName) jdk_43_method_2_code 2 (some .char) :: ws) ({ frames := 2, cells := 0, slots := 0, locals := 27 } : Room)) (fun a U => a = #[(.ref aB), (.int (0 : Int32))] ∧ Z.Warmed39 U.vm ∧ U.heap = h0) (fun _ _ _ _ _ => True) (fun _ U o U' => ∃ v L, o = .returned v ∧ Q_rmL_0_0  h0 n0 v U'.heap L ∧ FrameEnd U o U' L ({ frames := 2, cells := 0, slots := 0, locals := 27 } : Room).cells ({ frames := 2, cells := 0, slots := 0, locals := 27 } : Room).slots) := by
  refine MetFree.of_bodySF (plainFor_of_name pn_4) hisR ?_
  intro p e s m args below meth c s₁ Bd hml0 hP hK
  obtain ⟨rfl, hZ, hh⟩ := hP
  have hx := Bd.exec
  have hby := Bd.bytes
  have hml : c.maxLocals = 2 := hml0
  have hown : s.vm.findClass "java/lang/StringLatin1" = some m.cls := findClass_of_methodNamed Bd.named
  have hnm := (name_of_methodNamed Bd.named Bd.method).1
  have X0 : Stand p l e ({ frames := 2, cells := 0, slots := 0, locals := 27 } : Room) s m #[(.ref aB), (.int (0 : Int32))] below meth c s₁ [] 0 0 := Stand.of_body Bd
  have e0 : s₁.heap = h0 := by rw [← hh, Bd.state]; rfl
  have N0 := Fr.nil n0
  let PO : Outcome → State → Prop := own_PO s (Q_rmL_0_0  h0 n0) 0 0
  show own_Go p e below PO (s₁.setTop (entryFrame m #[(.ref aB), (.int (0 : Int32))] 2))
  rw [ef_rmL_0_0]
  show own_Go p e below PO (s₁.setTop (mkF m 0 #[.val (.ref aB), .val (.int (0 : Int32))] []))
  refine own_back ?_ (fun t k => XS.iloadN X0.here hx rfl (hb hby d9_0) rfl k)
  show own_Go p e below PO (s₁.setTop (mkF m 1 #[.val (.ref aB), .val (.int (0 : Int32))] [(.int (0 : Int32))]))
  refine own_back ?_ (fun t k => XS.aloadN X0.here hx rfl (hb hby d9_1) rfl rfl k)
  show own_Go p e below PO (s₁.setTop (mkF m 2 #[.val (.ref aB), .val (.int (0 : Int32))] [(.ref aB), (.int (0 : Int32))]))
  refine own_back ?_ (own_len X0 hx hZ e0 V_B (g := (mkF m 2 #[.val (.ref aB), .val (.int (0 : Int32))] [(.ref aB), (.int (0 : Int32))])) rfl rfl (hb hby d9_2))
  show own_Go p e below PO (s₁.setTop (mkF m 3 #[.val (.ref aB), .val (.int (0 : Int32))] [(.int (5 : Int32)), (.int (0 : Int32))]))
  obtain ⟨_, _, ⟨T1, L1, k1, n1⟩, -, X1, ⟨Lc1, hQ1, l1, y1, z1⟩, st1⟩ := Jvm.LawKit.callS X0 hx (y := (⟨"java/lang/String", "checkIndex", "(II)V"⟩ : MethodName)) hown (mvT hZ (hw _ (List.mem_of_getElem? (i := 56) rfl))) (mvT hZ (hw _ (List.mem_of_getElem? (i := 57) rfl))) (mvT hZ (hw _ (List.mem_of_getElem? (i := 22) rfl))) (mvT hZ (hw _ (List.mem_of_getElem? (i := 58) rfl))) (by decide) (backOf (W := 0) (rmCI l Z a0 hw [] (0 : Int32) (5 : Int32) vF h0 n0 Z0 S_F hF (by decide) (by decide)) hZ (hw _ (List.mem_of_getElem? (i := 58) rfl)) (hw _ (List.mem_of_getElem? (i := 22) rfl)) (by decide) (by decide)) (g := (mkF m 3 #[.val (.ref aB), .val (.int (0 : Int32))] [(.int (5 : Int32)), (.int (0 : Int32))])) rfl (by rw [hml]; rfl) (argsL := [(.int (0 : Int32)), (.int (5 : Int32))]) (rest := []) (lenOf pd_3 rfl) rfl (by show 2 * 0 + _ ≤ _; exact Nat.le_of_eq rfl) (hb hby d9_3) (fun _ _ => ⟨rfl, e0, (by decide : 0 + 0 ≤ _), (by decide : 0 + 0 ≤ _)⟩)
  dsimp only [Pt.U, Pt.locs, Pt.cells, Pt.slots] at X1 l1 y1 z1 st1 hQ1
  subst l1 y1 z1
  obtain ⟨rfl, N1q, e1⟩ := hQ1
  have N1 := Fr.app N0 N1q
  refine own_back ?_ st1
  show own_Go p e below PO (T1.setTop (mkF m 6 #[.val (.ref aB), .val (.int (0 : Int32))] []))
  refine own_back ?_ (fun t k => XS.aloadN X1.here hx rfl (hb hby d9_6) rfl rfl k)
  show own_Go p e below PO (T1.setTop (mkF m 7 #[.val (.ref aB), .val (.int (0 : Int32))] [(.ref aB)]))
  refine own_back ?_ (fun t k => XS.iloadN X1.here hx rfl (hb hby d9_7) rfl k)
  show own_Go p e below PO (T1.setTop (mkF m 8 #[.val (.ref aB), .val (.int (0 : Int32))] [(.int (0 : Int32)), (.ref aB)]))
  refine own_back ?_ (own_ldB X1 hx hZ e1 V_B (j := (0 : Int32)) (v := (.int (70 : Int32))) ⟨by decide, by decide⟩ rfl (g := (mkF m 8 #[.val (.ref aB), .val (.int (0 : Int32))] [(.int (0 : Int32)), (.ref aB)])) rfl rfl (hb hby d9_8))
  show own_Go p e below PO (T1.setTop (mkF m 9 #[.val (.ref aB), .val (.int (0 : Int32))] [(.int (70 : Int32))]))
  refine own_back ?_ (fun t k => XS.sipush X1.here hx rfl (hb hby d9_9) k)
  show own_Go p e below PO (T1.setTop (mkF m 12 #[.val (.ref aB), .val (.int (0 : Int32))] [(.int (255 : Int32)), (.int (70 : Int32))]))
  refine own_back ?_ (fun t k => XS.iand X1.here hx rfl (hb hby d9_12) rfl k)
  show own_Go p e below PO (T1.setTop (mkF m 13 #[.val (.ref aB), .val (.int (0 : Int32))] [(.int (70 : Int32))]))
  refine own_back ?_ (fun t k => XS.i2c X1.here hx rfl (hb hby d9_13) rfl k)
  show own_Go p e below PO (T1.setTop (mkF m 14 #[.val (.ref aB), .val (.int (0 : Int32))] [(.int ((70 : Int32).toUInt32.toUInt16.toUInt32.toInt32))]))
  refine own_retN X1 hx (t := .char) (rest := []) Bd.returns (by decide) (by simp) (hb hby d9_14) e1 (Bd.notSynchronized) ?_ (by decide) (by decide)
  exact ⟨congrArg (fun z => some (Value.int z)) (by first | rfl | decide), N1, rfl⟩
theorem ef_rmCh_0_0 (m : MethodId) (x0 : Addr) (x1 : Int32) : entryFrame m #[(.ref x0), (.int x1)] 2 = mkF m 0 #[.val (.ref x0), .val (.int x1)] [] := by first | (simp [entryFrame, mkF, argsToLocals, Value.category]; done) | rfl
def Q_rmCh_0_0  (h0 : Heap) (n0 : Nat) (v : Option Value) (h : Heap) (L : List Loc) : Prop := v = some (.int (70 : Int32)) ∧ Fr n0 L ∧ h = h0
set_option maxRecDepth 65536 in
set_option maxHeartbeats 40000000 in
theorem rmCh_0_0 (l : Launch) (Z : State) (a0 : Array Value) (hw : ∀ d ∈ tables_1, d.before a0 Z = true) (ws : List Jvm.Cond) (aS : Addr) (aB : Addr) (kB : ClassId) (zC : Int32) (vF : Value)  (h0 : Heap) (n0 : Nat) (Z0 : n0 ≤ h0.size) (E_S : Exa Z h0 aS "java/lang/String") (F_c : Fld Z h0 aS "java/lang/String" "coder" "B" (.int 0)) (F_v : Fld Z h0 aS "java/lang/String" "value" "[B" (.ref aB)) (V_B : Arv Z h0 aB kB .byte (5 : Int32) [(.int (70 : Int32)), (.int (65 : Int32)), (.int (76 : Int32)), (.int (83 : Int32)), (.int (69 : Int32))] (.int 0)) (S_C : Sta Z h0 "java/lang/String" "COMPACT_STRINGS" "Z" (.int zC)) (nzC : ¬ zC = (0 : Int32)) (S_F : Sta Z h0 "jdk/internal/util/Preconditions" "SIOOBE_FORMATTER" "Ljava/util/function/BiFunction;" vF) (hF : vF.isRef = true)  :
    MetFree l (⟨"java/lang/String", "charAt", "(I)C"⟩ : MethodName) (head1 (Jvm.Cond.code (⟨"java/lang/String", "charAt", "(I)C"⟩ : MethodName) jdk_42_method_56_code 2 (some .char) :: ws) ({ frames := 3, cells := 0, slots := 0, locals := 40 } : Room)) (fun a U => a = #[(.ref aS), (.int (0 : Int32))] ∧ Z.Warmed39 U.vm ∧ U.heap = h0) (fun _ _ _ _ _ => True) (fun _ U o U' => ∃ v L, o = .returned v ∧ Q_rmCh_0_0  h0 n0 v U'.heap L ∧ FrameEnd U o U' L ({ frames := 3, cells := 0, slots := 0, locals := 40 } : Room).cells ({ frames := 3, cells := 0, slots := 0, locals := 40 } : Room).slots) := by
  refine MetFree.of_bodySF (plainFor_of_name pn_2) hisR ?_
  intro p e s m args below meth c s₁ Bd hml0 hP hK
  obtain ⟨rfl, hZ, hh⟩ := hP
  have hx := Bd.exec
  have hby := Bd.bytes
  have hml : c.maxLocals = 2 := hml0
  have hown : s.vm.findClass "java/lang/String" = some m.cls := findClass_of_methodNamed Bd.named
  have hnm := (name_of_methodNamed Bd.named Bd.method).1
  have X0 : Stand p l e ({ frames := 3, cells := 0, slots := 0, locals := 40 } : Room) s m #[(.ref aS), (.int (0 : Int32))] below meth c s₁ [] 0 0 := Stand.of_body Bd
  have e0 : s₁.heap = h0 := by rw [← hh, Bd.state]; rfl
  have N0 := Fr.nil n0
  let PO : Outcome → State → Prop := own_PO s (Q_rmCh_0_0  h0 n0) 0 0
  show own_Go p e below PO (s₁.setTop (entryFrame m #[(.ref aS), (.int (0 : Int32))] 2))
  rw [ef_rmCh_0_0]
  show own_Go p e below PO (s₁.setTop (mkF m 0 #[.val (.ref aS), .val (.int (0 : Int32))] []))
  refine own_back ?_ (fun t k => XS.aloadN X0.here hx rfl (hb hby d7_0) rfl rfl k)
  show own_Go p e below PO (s₁.setTop (mkF m 1 #[.val (.ref aS), .val (.int (0 : Int32))] [(.ref aS)]))
  obtain ⟨cq1, kq1, q1a, q1b, q1c⟩ := isOf hZ e0 E_S
  obtain ⟨_, _, ⟨T1, L1, k1, n1⟩, -, X1, ⟨Lc1, hQ1, l1, y1, z1⟩, st1⟩ := X0.virtualBack hx (y := (⟨"java/lang/String", "isLatin1", "()Z"⟩ : MethodName)) (z := (⟨"java/lang/String", "isLatin1", "()Z"⟩ : MethodName)) hown (mvT hZ (hw _ (List.mem_of_getElem? (i := 47) rfl))) (mvT hZ (hw _ (List.mem_of_getElem? (i := 48) rfl))) (notFace_of_selects (args := #[]) (mvT hZ (hw _ (List.mem_of_getElem? (i := 50) rfl)))) (mvT hZ (hw _ (List.mem_of_getElem? (i := 50) rfl))) (mvT hZ (hw _ (List.mem_of_getElem? (i := 49) rfl))) (by decide) (backOf (W := 0) (rm8 l Z a0 hw [] aS zC h0 n0 Z0 F_c S_C nzC) hZ (hw _ (List.mem_of_getElem? (i := 51) rfl)) (hw _ (List.mem_of_getElem? (i := 22) rfl)) (by decide) (by decide)) q1a q1c (g := (mkF m 1 #[.val (.ref aS), .val (.int (0 : Int32))] [(.ref aS)])) rfl (by rw [hml]; rfl) (Steps.refl _) (argsL := []) (rest := []) (lenOf pd_4 rfl) rfl (by show 2 * 0 + _ ≤ _; exact Nat.le_of_eq rfl) (hb hby d7_1) (fun _ _ => ⟨rfl, e0, (by decide : 0 + 0 ≤ _), (by decide : 0 + 0 ≤ _)⟩)
  dsimp only [Pt.U, Pt.locs, Pt.cells, Pt.slots] at X1 l1 y1 z1 st1 hQ1
  subst l1 y1 z1
  obtain ⟨rfl, N1q, e1⟩ := hQ1
  have N1 := Fr.app N0 N1q
  refine own_back ?_ (fun t k => st1.trans k)
  show own_Go p e below PO (T1.setTop (mkF m 4 #[.val (.ref aS), .val (.int (0 : Int32))] [(.int (1 : Int32))]))
  have hd4_2 : ¬ ((1 : Int32) = (0 : Int32)) := (by decide)
  refine own_back ?_ (fun t k => XS.ifNo X1.here hx rfl (hb hby d7_4) rfl ((if0 _ _).trans (feq hd4_2).1) k)
  show own_Go p e below PO (T1.setTop (mkF m 7 #[.val (.ref aS), .val (.int (0 : Int32))] []))
  refine own_back ?_ (fun t k => XS.aloadN X1.here hx rfl (hb hby d7_7) rfl rfl k)
  show own_Go p e below PO (T1.setTop (mkF m 8 #[.val (.ref aS), .val (.int (0 : Int32))] [(.ref aS)]))
  obtain ⟨T3, X3, e3, st3⟩ := getF X1 hx hZ hown (host := "") (Or.inl (hw _ (List.mem_of_getElem? (i := 34) rfl))) Via.refl e1 F_v (g := (mkF m 8 #[.val (.ref aS), .val (.int (0 : Int32))] [(.ref aS)])) rfl rfl (hb hby d7_8)
  refine own_back ?_ st3
  show own_Go p e below PO (T3.setTop (mkF m 11 #[.val (.ref aS), .val (.int (0 : Int32))] [(.ref aB)]))
  refine own_back ?_ (fun t k => XS.iloadN X3.here hx rfl (hb hby d7_11) rfl k)
  show own_Go p e below PO (T3.setTop (mkF m 12 #[.val (.ref aS), .val (.int (0 : Int32))] [(.int (0 : Int32)), (.ref aB)]))
  obtain ⟨_, _, ⟨T4, L4, k4, n4⟩, -, X4, ⟨Lc4, hQ4, l4, y4, z4⟩, st4⟩ := Jvm.LawKit.callS X3 hx (y := (⟨"java/lang/StringLatin1", "charAt", "([BI)C"⟩ : MethodName)) hown (mvT hZ (hw _ (List.mem_of_getElem? (i := 52) rfl))) (mvT hZ (hw _ (List.mem_of_getElem? (i := 53) rfl))) (mvT hZ (hw _ (List.mem_of_getElem? (i := 54) rfl))) (mvT hZ (hw _ (List.mem_of_getElem? (i := 55) rfl))) (by decide) (backOf (W := 0) (rmL_0_0 l Z a0 hw [] aB kB vF  h0 n0 Z0 V_B S_F hF ) hZ (hw _ (List.mem_of_getElem? (i := 55) rfl)) (hw _ (List.mem_of_getElem? (i := 54) rfl)) (by decide) (by decide)) (g := (mkF m 12 #[.val (.ref aS), .val (.int (0 : Int32))] [(.int (0 : Int32)), (.ref aB)])) rfl (by rw [hml]; rfl) (argsL := [(.ref aB), (.int (0 : Int32))]) (rest := []) (lenOf pd_5 rfl) rfl (by show 2 * 0 + _ ≤ _; exact Nat.le_of_eq rfl) (hb hby d7_12) (fun _ _ => ⟨rfl, e3, (by decide : 0 + 0 ≤ _), (by decide : 0 + 0 ≤ _)⟩)
  dsimp only [Pt.U, Pt.locs, Pt.cells, Pt.slots] at X4 l4 y4 z4 st4 hQ4
  subst l4 y4 z4
  obtain ⟨rfl, N4q, e4⟩ := hQ4
  have N4 := Fr.app N1 N4q
  refine own_back ?_ st4
  show own_Go p e below PO (T4.setTop (mkF m 15 #[.val (.ref aS), .val (.int (0 : Int32))] [(.int (70 : Int32))]))
  refine own_retN X4 hx (t := .char) (rest := []) Bd.returns (by decide) (by simp) (hb hby d7_15) e4 (Bd.notSynchronized) ?_ (by decide) (by decide)
  exact ⟨by first | rfl | decide, N4, rfl⟩
theorem ef_rmL_0_1 (m : MethodId) (x0 : Addr) (x1 : Int32) : entryFrame m #[(.ref x0), (.int x1)] 2 = mkF m 0 #[.val (.ref x0), .val (.int x1)] [] := by first | (simp [entryFrame, mkF, argsToLocals, Value.category]; done) | rfl
def Q_rmL_0_1  (h0 : Heap) (n0 : Nat) (v : Option Value) (h : Heap) (L : List Loc) : Prop := v = some (.int (65 : Int32)) ∧ Fr n0 L ∧ h = h0
set_option maxRecDepth 65536 in
set_option maxHeartbeats 40000000 in
theorem rmL_0_1 (l : Launch) (Z : State) (a0 : Array Value) (hw : ∀ d ∈ tables_1, d.before a0 Z = true) (ws : List Jvm.Cond) (aB : Addr) (kB : ClassId) (vF : Value)  (h0 : Heap) (n0 : Nat) (Z0 : n0 ≤ h0.size) (V_B : Arv Z h0 aB kB .byte (5 : Int32) [(.int (70 : Int32)), (.int (65 : Int32)), (.int (76 : Int32)), (.int (83 : Int32)), (.int (69 : Int32))] (.int 0)) (S_F : Sta Z h0 "jdk/internal/util/Preconditions" "SIOOBE_FORMATTER" "Ljava/util/function/BiFunction;" vF) (hF : vF.isRef = true)  :
    MetFree l (⟨"java/lang/StringLatin1", "charAt", "([BI)C"⟩ : MethodName) (head1 (Jvm.Cond.code (⟨"java/lang/StringLatin1", "charAt", "([BI)C"⟩ : MethodName) jdk_43_method_2_code 2 (some .char) :: ws) ({ frames := 2, cells := 0, slots := 0, locals := 27 } : Room)) (fun a U => a = #[(.ref aB), (.int (1 : Int32))] ∧ Z.Warmed39 U.vm ∧ U.heap = h0) (fun _ _ _ _ _ => True) (fun _ U o U' => ∃ v L, o = .returned v ∧ Q_rmL_0_1  h0 n0 v U'.heap L ∧ FrameEnd U o U' L ({ frames := 2, cells := 0, slots := 0, locals := 27 } : Room).cells ({ frames := 2, cells := 0, slots := 0, locals := 27 } : Room).slots) := by
  refine MetFree.of_bodySF (plainFor_of_name pn_4) hisR ?_
  intro p e s m args below meth c s₁ Bd hml0 hP hK
  obtain ⟨rfl, hZ, hh⟩ := hP
  have hx := Bd.exec
  have hby := Bd.bytes
  have hml : c.maxLocals = 2 := hml0
  have hown : s.vm.findClass "java/lang/StringLatin1" = some m.cls := findClass_of_methodNamed Bd.named
  have hnm := (name_of_methodNamed Bd.named Bd.method).1
  have X0 : Stand p l e ({ frames := 2, cells := 0, slots := 0, locals := 27 } : Room) s m #[(.ref aB), (.int (1 : Int32))] below meth c s₁ [] 0 0 := Stand.of_body Bd
  have e0 : s₁.heap = h0 := by rw [← hh, Bd.state]; rfl
  have N0 := Fr.nil n0
  let PO : Outcome → State → Prop := own_PO s (Q_rmL_0_1  h0 n0) 0 0
  show own_Go p e below PO (s₁.setTop (entryFrame m #[(.ref aB), (.int (1 : Int32))] 2))
  rw [ef_rmL_0_1]
  show own_Go p e below PO (s₁.setTop (mkF m 0 #[.val (.ref aB), .val (.int (1 : Int32))] []))
  refine own_back ?_ (fun t k => XS.iloadN X0.here hx rfl (hb hby d9_0) rfl k)
  show own_Go p e below PO (s₁.setTop (mkF m 1 #[.val (.ref aB), .val (.int (1 : Int32))] [(.int (1 : Int32))]))
  refine own_back ?_ (fun t k => XS.aloadN X0.here hx rfl (hb hby d9_1) rfl rfl k)
  show own_Go p e below PO (s₁.setTop (mkF m 2 #[.val (.ref aB), .val (.int (1 : Int32))] [(.ref aB), (.int (1 : Int32))]))
  refine own_back ?_ (own_len X0 hx hZ e0 V_B (g := (mkF m 2 #[.val (.ref aB), .val (.int (1 : Int32))] [(.ref aB), (.int (1 : Int32))])) rfl rfl (hb hby d9_2))
  show own_Go p e below PO (s₁.setTop (mkF m 3 #[.val (.ref aB), .val (.int (1 : Int32))] [(.int (5 : Int32)), (.int (1 : Int32))]))
  obtain ⟨_, _, ⟨T1, L1, k1, n1⟩, -, X1, ⟨Lc1, hQ1, l1, y1, z1⟩, st1⟩ := Jvm.LawKit.callS X0 hx (y := (⟨"java/lang/String", "checkIndex", "(II)V"⟩ : MethodName)) hown (mvT hZ (hw _ (List.mem_of_getElem? (i := 56) rfl))) (mvT hZ (hw _ (List.mem_of_getElem? (i := 57) rfl))) (mvT hZ (hw _ (List.mem_of_getElem? (i := 22) rfl))) (mvT hZ (hw _ (List.mem_of_getElem? (i := 58) rfl))) (by decide) (backOf (W := 0) (rmCI l Z a0 hw [] (1 : Int32) (5 : Int32) vF h0 n0 Z0 S_F hF (by decide) (by decide)) hZ (hw _ (List.mem_of_getElem? (i := 58) rfl)) (hw _ (List.mem_of_getElem? (i := 22) rfl)) (by decide) (by decide)) (g := (mkF m 3 #[.val (.ref aB), .val (.int (1 : Int32))] [(.int (5 : Int32)), (.int (1 : Int32))])) rfl (by rw [hml]; rfl) (argsL := [(.int (1 : Int32)), (.int (5 : Int32))]) (rest := []) (lenOf pd_3 rfl) rfl (by show 2 * 0 + _ ≤ _; exact Nat.le_of_eq rfl) (hb hby d9_3) (fun _ _ => ⟨rfl, e0, (by decide : 0 + 0 ≤ _), (by decide : 0 + 0 ≤ _)⟩)
  dsimp only [Pt.U, Pt.locs, Pt.cells, Pt.slots] at X1 l1 y1 z1 st1 hQ1
  subst l1 y1 z1
  obtain ⟨rfl, N1q, e1⟩ := hQ1
  have N1 := Fr.app N0 N1q
  refine own_back ?_ st1
  show own_Go p e below PO (T1.setTop (mkF m 6 #[.val (.ref aB), .val (.int (1 : Int32))] []))
  refine own_back ?_ (fun t k => XS.aloadN X1.here hx rfl (hb hby d9_6) rfl rfl k)
  show own_Go p e below PO (T1.setTop (mkF m 7 #[.val (.ref aB), .val (.int (1 : Int32))] [(.ref aB)]))
  refine own_back ?_ (fun t k => XS.iloadN X1.here hx rfl (hb hby d9_7) rfl k)
  show own_Go p e below PO (T1.setTop (mkF m 8 #[.val (.ref aB), .val (.int (1 : Int32))] [(.int (1 : Int32)), (.ref aB)]))
  refine own_back ?_ (own_ldB X1 hx hZ e1 V_B (j := (1 : Int32)) (v := (.int (65 : Int32))) ⟨by decide, by decide⟩ rfl (g := (mkF m 8 #[.val (.ref aB), .val (.int (1 : Int32))] [(.int (1 : Int32)), (.ref aB)])) rfl rfl (hb hby d9_8))
  show own_Go p e below PO (T1.setTop (mkF m 9 #[.val (.ref aB), .val (.int (1 : Int32))] [(.int (65 : Int32))]))
  refine own_back ?_ (fun t k => XS.sipush X1.here hx rfl (hb hby d9_9) k)
  show own_Go p e below PO (T1.setTop (mkF m 12 #[.val (.ref aB), .val (.int (1 : Int32))] [(.int (255 : Int32)), (.int (65 : Int32))]))
  refine own_back ?_ (fun t k => XS.iand X1.here hx rfl (hb hby d9_12) rfl k)
  show own_Go p e below PO (T1.setTop (mkF m 13 #[.val (.ref aB), .val (.int (1 : Int32))] [(.int (65 : Int32))]))
  refine own_back ?_ (fun t k => XS.i2c X1.here hx rfl (hb hby d9_13) rfl k)
  show own_Go p e below PO (T1.setTop (mkF m 14 #[.val (.ref aB), .val (.int (1 : Int32))] [(.int ((65 : Int32).toUInt32.toUInt16.toUInt32.toInt32))]))
  refine own_retN X1 hx (t := .char) (rest := []) Bd.returns (by decide) (by simp) (hb hby d9_14) e1 (Bd.notSynchronized) ?_ (by decide) (by decide)
  exact ⟨congrArg (fun z => some (Value.int z)) (by first | rfl | decide), N1, rfl⟩
theorem ef_rmCh_0_1 (m : MethodId) (x0 : Addr) (x1 : Int32) : entryFrame m #[(.ref x0), (.int x1)] 2 = mkF m 0 #[.val (.ref x0), .val (.int x1)] [] := by first | (simp [entryFrame, mkF, argsToLocals, Value.category]; done) | rfl
def Q_rmCh_0_1  (h0 : Heap) (n0 : Nat) (v : Option Value) (h : Heap) (L : List Loc) : Prop := v = some (.int (65 : Int32)) ∧ Fr n0 L ∧ h = h0
set_option maxRecDepth 65536 in
set_option maxHeartbeats 40000000 in
theorem rmCh_0_1 (l : Launch) (Z : State) (a0 : Array Value) (hw : ∀ d ∈ tables_1, d.before a0 Z = true) (ws : List Jvm.Cond) (aS : Addr) (aB : Addr) (kB : ClassId) (zC : Int32) (vF : Value)  (h0 : Heap) (n0 : Nat) (Z0 : n0 ≤ h0.size) (E_S : Exa Z h0 aS "java/lang/String") (F_c : Fld Z h0 aS "java/lang/String" "coder" "B" (.int 0)) (F_v : Fld Z h0 aS "java/lang/String" "value" "[B" (.ref aB)) (V_B : Arv Z h0 aB kB .byte (5 : Int32) [(.int (70 : Int32)), (.int (65 : Int32)), (.int (76 : Int32)), (.int (83 : Int32)), (.int (69 : Int32))] (.int 0)) (S_C : Sta Z h0 "java/lang/String" "COMPACT_STRINGS" "Z" (.int zC)) (nzC : ¬ zC = (0 : Int32)) (S_F : Sta Z h0 "jdk/internal/util/Preconditions" "SIOOBE_FORMATTER" "Ljava/util/function/BiFunction;" vF) (hF : vF.isRef = true)  :
    MetFree l (⟨"java/lang/String", "charAt", "(I)C"⟩ : MethodName) (head1 (Jvm.Cond.code (⟨"java/lang/String", "charAt", "(I)C"⟩ : MethodName) jdk_42_method_56_code 2 (some .char) :: ws) ({ frames := 3, cells := 0, slots := 0, locals := 40 } : Room)) (fun a U => a = #[(.ref aS), (.int (1 : Int32))] ∧ Z.Warmed39 U.vm ∧ U.heap = h0) (fun _ _ _ _ _ => True) (fun _ U o U' => ∃ v L, o = .returned v ∧ Q_rmCh_0_1  h0 n0 v U'.heap L ∧ FrameEnd U o U' L ({ frames := 3, cells := 0, slots := 0, locals := 40 } : Room).cells ({ frames := 3, cells := 0, slots := 0, locals := 40 } : Room).slots) := by
  refine MetFree.of_bodySF (plainFor_of_name pn_2) hisR ?_
  intro p e s m args below meth c s₁ Bd hml0 hP hK
  obtain ⟨rfl, hZ, hh⟩ := hP
  have hx := Bd.exec
  have hby := Bd.bytes
  have hml : c.maxLocals = 2 := hml0
  have hown : s.vm.findClass "java/lang/String" = some m.cls := findClass_of_methodNamed Bd.named
  have hnm := (name_of_methodNamed Bd.named Bd.method).1
  have X0 : Stand p l e ({ frames := 3, cells := 0, slots := 0, locals := 40 } : Room) s m #[(.ref aS), (.int (1 : Int32))] below meth c s₁ [] 0 0 := Stand.of_body Bd
  have e0 : s₁.heap = h0 := by rw [← hh, Bd.state]; rfl
  have N0 := Fr.nil n0
  let PO : Outcome → State → Prop := own_PO s (Q_rmCh_0_1  h0 n0) 0 0
  show own_Go p e below PO (s₁.setTop (entryFrame m #[(.ref aS), (.int (1 : Int32))] 2))
  rw [ef_rmCh_0_1]
  show own_Go p e below PO (s₁.setTop (mkF m 0 #[.val (.ref aS), .val (.int (1 : Int32))] []))
  refine own_back ?_ (fun t k => XS.aloadN X0.here hx rfl (hb hby d7_0) rfl rfl k)
  show own_Go p e below PO (s₁.setTop (mkF m 1 #[.val (.ref aS), .val (.int (1 : Int32))] [(.ref aS)]))
  obtain ⟨cq1, kq1, q1a, q1b, q1c⟩ := isOf hZ e0 E_S
  obtain ⟨_, _, ⟨T1, L1, k1, n1⟩, -, X1, ⟨Lc1, hQ1, l1, y1, z1⟩, st1⟩ := X0.virtualBack hx (y := (⟨"java/lang/String", "isLatin1", "()Z"⟩ : MethodName)) (z := (⟨"java/lang/String", "isLatin1", "()Z"⟩ : MethodName)) hown (mvT hZ (hw _ (List.mem_of_getElem? (i := 47) rfl))) (mvT hZ (hw _ (List.mem_of_getElem? (i := 48) rfl))) (notFace_of_selects (args := #[]) (mvT hZ (hw _ (List.mem_of_getElem? (i := 50) rfl)))) (mvT hZ (hw _ (List.mem_of_getElem? (i := 50) rfl))) (mvT hZ (hw _ (List.mem_of_getElem? (i := 49) rfl))) (by decide) (backOf (W := 0) (rm8 l Z a0 hw [] aS zC h0 n0 Z0 F_c S_C nzC) hZ (hw _ (List.mem_of_getElem? (i := 51) rfl)) (hw _ (List.mem_of_getElem? (i := 22) rfl)) (by decide) (by decide)) q1a q1c (g := (mkF m 1 #[.val (.ref aS), .val (.int (1 : Int32))] [(.ref aS)])) rfl (by rw [hml]; rfl) (Steps.refl _) (argsL := []) (rest := []) (lenOf pd_4 rfl) rfl (by show 2 * 0 + _ ≤ _; exact Nat.le_of_eq rfl) (hb hby d7_1) (fun _ _ => ⟨rfl, e0, (by decide : 0 + 0 ≤ _), (by decide : 0 + 0 ≤ _)⟩)
  dsimp only [Pt.U, Pt.locs, Pt.cells, Pt.slots] at X1 l1 y1 z1 st1 hQ1
  subst l1 y1 z1
  obtain ⟨rfl, N1q, e1⟩ := hQ1
  have N1 := Fr.app N0 N1q
  refine own_back ?_ (fun t k => st1.trans k)
  show own_Go p e below PO (T1.setTop (mkF m 4 #[.val (.ref aS), .val (.int (1 : Int32))] [(.int (1 : Int32))]))
  have hd4_2 : ¬ ((1 : Int32) = (0 : Int32)) := (by decide)
  refine own_back ?_ (fun t k => XS.ifNo X1.here hx rfl (hb hby d7_4) rfl ((if0 _ _).trans (feq hd4_2).1) k)
  show own_Go p e below PO (T1.setTop (mkF m 7 #[.val (.ref aS), .val (.int (1 : Int32))] []))
  refine own_back ?_ (fun t k => XS.aloadN X1.here hx rfl (hb hby d7_7) rfl rfl k)
  show own_Go p e below PO (T1.setTop (mkF m 8 #[.val (.ref aS), .val (.int (1 : Int32))] [(.ref aS)]))
  obtain ⟨T3, X3, e3, st3⟩ := getF X1 hx hZ hown (host := "") (Or.inl (hw _ (List.mem_of_getElem? (i := 34) rfl))) Via.refl e1 F_v (g := (mkF m 8 #[.val (.ref aS), .val (.int (1 : Int32))] [(.ref aS)])) rfl rfl (hb hby d7_8)
  refine own_back ?_ st3
  show own_Go p e below PO (T3.setTop (mkF m 11 #[.val (.ref aS), .val (.int (1 : Int32))] [(.ref aB)]))
  refine own_back ?_ (fun t k => XS.iloadN X3.here hx rfl (hb hby d7_11) rfl k)
  show own_Go p e below PO (T3.setTop (mkF m 12 #[.val (.ref aS), .val (.int (1 : Int32))] [(.int (1 : Int32)), (.ref aB)]))
  obtain ⟨_, _, ⟨T4, L4, k4, n4⟩, -, X4, ⟨Lc4, hQ4, l4, y4, z4⟩, st4⟩ := Jvm.LawKit.callS X3 hx (y := (⟨"java/lang/StringLatin1", "charAt", "([BI)C"⟩ : MethodName)) hown (mvT hZ (hw _ (List.mem_of_getElem? (i := 52) rfl))) (mvT hZ (hw _ (List.mem_of_getElem? (i := 53) rfl))) (mvT hZ (hw _ (List.mem_of_getElem? (i := 54) rfl))) (mvT hZ (hw _ (List.mem_of_getElem? (i := 55) rfl))) (by decide) (backOf (W := 0) (rmL_0_1 l Z a0 hw [] aB kB vF  h0 n0 Z0 V_B S_F hF ) hZ (hw _ (List.mem_of_getElem? (i := 55) rfl)) (hw _ (List.mem_of_getElem? (i := 54) rfl)) (by decide) (by decide)) (g := (mkF m 12 #[.val (.ref aS), .val (.int (1 : Int32))] [(.int (1 : Int32)), (.ref aB)])) rfl (by rw [hml]; rfl) (argsL := [(.ref aB), (.int (1 : Int32))]) (rest := []) (lenOf pd_5 rfl) rfl (by show 2 * 0 + _ ≤ _; exact Nat.le_of_eq rfl) (hb hby d7_12) (fun _ _ => ⟨rfl, e3, (by decide : 0 + 0 ≤ _), (by decide : 0 + 0 ≤ _)⟩)
  dsimp only [Pt.U, Pt.locs, Pt.cells, Pt.slots] at X4 l4 y4 z4 st4 hQ4
  subst l4 y4 z4
  obtain ⟨rfl, N4q, e4⟩ := hQ4
  have N4 := Fr.app N1 N4q
  refine own_back ?_ st4
  show own_Go p e below PO (T4.setTop (mkF m 15 #[.val (.ref aS), .val (.int (1 : Int32))] [(.int (65 : Int32))]))
  refine own_retN X4 hx (t := .char) (rest := []) Bd.returns (by decide) (by simp) (hb hby d7_15) e4 (Bd.notSynchronized) ?_ (by decide) (by decide)
  exact ⟨by first | rfl | decide, N4, rfl⟩
theorem ef_rmL_0_2 (m : MethodId) (x0 : Addr) (x1 : Int32) : entryFrame m #[(.ref x0), (.int x1)] 2 = mkF m 0 #[.val (.ref x0), .val (.int x1)] [] := by first | (simp [entryFrame, mkF, argsToLocals, Value.category]; done) | rfl
def Q_rmL_0_2  (h0 : Heap) (n0 : Nat) (v : Option Value) (h : Heap) (L : List Loc) : Prop := v = some (.int (76 : Int32)) ∧ Fr n0 L ∧ h = h0
set_option maxRecDepth 65536 in
set_option maxHeartbeats 40000000 in
theorem rmL_0_2 (l : Launch) (Z : State) (a0 : Array Value) (hw : ∀ d ∈ tables_1, d.before a0 Z = true) (ws : List Jvm.Cond) (aB : Addr) (kB : ClassId) (vF : Value)  (h0 : Heap) (n0 : Nat) (Z0 : n0 ≤ h0.size) (V_B : Arv Z h0 aB kB .byte (5 : Int32) [(.int (70 : Int32)), (.int (65 : Int32)), (.int (76 : Int32)), (.int (83 : Int32)), (.int (69 : Int32))] (.int 0)) (S_F : Sta Z h0 "jdk/internal/util/Preconditions" "SIOOBE_FORMATTER" "Ljava/util/function/BiFunction;" vF) (hF : vF.isRef = true)  :
    MetFree l (⟨"java/lang/StringLatin1", "charAt", "([BI)C"⟩ : MethodName) (head1 (Jvm.Cond.code (⟨"java/lang/StringLatin1", "charAt", "([BI)C"⟩ : MethodName) jdk_43_method_2_code 2 (some .char) :: ws) ({ frames := 2, cells := 0, slots := 0, locals := 27 } : Room)) (fun a U => a = #[(.ref aB), (.int (2 : Int32))] ∧ Z.Warmed39 U.vm ∧ U.heap = h0) (fun _ _ _ _ _ => True) (fun _ U o U' => ∃ v L, o = .returned v ∧ Q_rmL_0_2  h0 n0 v U'.heap L ∧ FrameEnd U o U' L ({ frames := 2, cells := 0, slots := 0, locals := 27 } : Room).cells ({ frames := 2, cells := 0, slots := 0, locals := 27 } : Room).slots) := by
  refine MetFree.of_bodySF (plainFor_of_name pn_4) hisR ?_
  intro p e s m args below meth c s₁ Bd hml0 hP hK
  obtain ⟨rfl, hZ, hh⟩ := hP
  have hx := Bd.exec
  have hby := Bd.bytes
  have hml : c.maxLocals = 2 := hml0
  have hown : s.vm.findClass "java/lang/StringLatin1" = some m.cls := findClass_of_methodNamed Bd.named
  have hnm := (name_of_methodNamed Bd.named Bd.method).1
  have X0 : Stand p l e ({ frames := 2, cells := 0, slots := 0, locals := 27 } : Room) s m #[(.ref aB), (.int (2 : Int32))] below meth c s₁ [] 0 0 := Stand.of_body Bd
  have e0 : s₁.heap = h0 := by rw [← hh, Bd.state]; rfl
  have N0 := Fr.nil n0
  let PO : Outcome → State → Prop := own_PO s (Q_rmL_0_2  h0 n0) 0 0
  show own_Go p e below PO (s₁.setTop (entryFrame m #[(.ref aB), (.int (2 : Int32))] 2))
  rw [ef_rmL_0_2]
  show own_Go p e below PO (s₁.setTop (mkF m 0 #[.val (.ref aB), .val (.int (2 : Int32))] []))
  refine own_back ?_ (fun t k => XS.iloadN X0.here hx rfl (hb hby d9_0) rfl k)
  show own_Go p e below PO (s₁.setTop (mkF m 1 #[.val (.ref aB), .val (.int (2 : Int32))] [(.int (2 : Int32))]))
  refine own_back ?_ (fun t k => XS.aloadN X0.here hx rfl (hb hby d9_1) rfl rfl k)
  show own_Go p e below PO (s₁.setTop (mkF m 2 #[.val (.ref aB), .val (.int (2 : Int32))] [(.ref aB), (.int (2 : Int32))]))
  refine own_back ?_ (own_len X0 hx hZ e0 V_B (g := (mkF m 2 #[.val (.ref aB), .val (.int (2 : Int32))] [(.ref aB), (.int (2 : Int32))])) rfl rfl (hb hby d9_2))
  show own_Go p e below PO (s₁.setTop (mkF m 3 #[.val (.ref aB), .val (.int (2 : Int32))] [(.int (5 : Int32)), (.int (2 : Int32))]))
  obtain ⟨_, _, ⟨T1, L1, k1, n1⟩, -, X1, ⟨Lc1, hQ1, l1, y1, z1⟩, st1⟩ := Jvm.LawKit.callS X0 hx (y := (⟨"java/lang/String", "checkIndex", "(II)V"⟩ : MethodName)) hown (mvT hZ (hw _ (List.mem_of_getElem? (i := 56) rfl))) (mvT hZ (hw _ (List.mem_of_getElem? (i := 57) rfl))) (mvT hZ (hw _ (List.mem_of_getElem? (i := 22) rfl))) (mvT hZ (hw _ (List.mem_of_getElem? (i := 58) rfl))) (by decide) (backOf (W := 0) (rmCI l Z a0 hw [] (2 : Int32) (5 : Int32) vF h0 n0 Z0 S_F hF (by decide) (by decide)) hZ (hw _ (List.mem_of_getElem? (i := 58) rfl)) (hw _ (List.mem_of_getElem? (i := 22) rfl)) (by decide) (by decide)) (g := (mkF m 3 #[.val (.ref aB), .val (.int (2 : Int32))] [(.int (5 : Int32)), (.int (2 : Int32))])) rfl (by rw [hml]; rfl) (argsL := [(.int (2 : Int32)), (.int (5 : Int32))]) (rest := []) (lenOf pd_3 rfl) rfl (by show 2 * 0 + _ ≤ _; exact Nat.le_of_eq rfl) (hb hby d9_3) (fun _ _ => ⟨rfl, e0, (by decide : 0 + 0 ≤ _), (by decide : 0 + 0 ≤ _)⟩)
  dsimp only [Pt.U, Pt.locs, Pt.cells, Pt.slots] at X1 l1 y1 z1 st1 hQ1
  subst l1 y1 z1
  obtain ⟨rfl, N1q, e1⟩ := hQ1
  have N1 := Fr.app N0 N1q
  refine own_back ?_ st1
  show own_Go p e below PO (T1.setTop (mkF m 6 #[.val (.ref aB), .val (.int (2 : Int32))] []))
  refine own_back ?_ (fun t k => XS.aloadN X1.here hx rfl (hb hby d9_6) rfl rfl k)
  show own_Go p e below PO (T1.setTop (mkF m 7 #[.val (.ref aB), .val (.int (2 : Int32))] [(.ref aB)]))
  refine own_back ?_ (fun t k => XS.iloadN X1.here hx rfl (hb hby d9_7) rfl k)
  show own_Go p e below PO (T1.setTop (mkF m 8 #[.val (.ref aB), .val (.int (2 : Int32))] [(.int (2 : Int32)), (.ref aB)]))
  refine own_back ?_ (own_ldB X1 hx hZ e1 V_B (j := (2 : Int32)) (v := (.int (76 : Int32))) ⟨by decide, by decide⟩ rfl (g := (mkF m 8 #[.val (.ref aB), .val (.int (2 : Int32))] [(.int (2 : Int32)), (.ref aB)])) rfl rfl (hb hby d9_8))
  show own_Go p e below PO (T1.setTop (mkF m 9 #[.val (.ref aB), .val (.int (2 : Int32))] [(.int (76 : Int32))]))
  refine own_back ?_ (fun t k => XS.sipush X1.here hx rfl (hb hby d9_9) k)
  show own_Go p e below PO (T1.setTop (mkF m 12 #[.val (.ref aB), .val (.int (2 : Int32))] [(.int (255 : Int32)), (.int (76 : Int32))]))
  refine own_back ?_ (fun t k => XS.iand X1.here hx rfl (hb hby d9_12) rfl k)
  show own_Go p e below PO (T1.setTop (mkF m 13 #[.val (.ref aB), .val (.int (2 : Int32))] [(.int (76 : Int32))]))
  refine own_back ?_ (fun t k => XS.i2c X1.here hx rfl (hb hby d9_13) rfl k)
  show own_Go p e below PO (T1.setTop (mkF m 14 #[.val (.ref aB), .val (.int (2 : Int32))] [(.int ((76 : Int32).toUInt32.toUInt16.toUInt32.toInt32))]))
  refine own_retN X1 hx (t := .char) (rest := []) Bd.returns (by decide) (by simp) (hb hby d9_14) e1 (Bd.notSynchronized) ?_ (by decide) (by decide)
  exact ⟨congrArg (fun z => some (Value.int z)) (by first | rfl | decide), N1, rfl⟩
theorem ef_rmCh_0_2 (m : MethodId) (x0 : Addr) (x1 : Int32) : entryFrame m #[(.ref x0), (.int x1)] 2 = mkF m 0 #[.val (.ref x0), .val (.int x1)] [] := by first | (simp [entryFrame, mkF, argsToLocals, Value.category]; done) | rfl
def Q_rmCh_0_2  (h0 : Heap) (n0 : Nat) (v : Option Value) (h : Heap) (L : List Loc) : Prop := v = some (.int (76 : Int32)) ∧ Fr n0 L ∧ h = h0
set_option maxRecDepth 65536 in
set_option maxHeartbeats 40000000 in
theorem rmCh_0_2 (l : Launch) (Z : State) (a0 : Array Value) (hw : ∀ d ∈ tables_1, d.before a0 Z = true) (ws : List Jvm.Cond) (aS : Addr) (aB : Addr) (kB : ClassId) (zC : Int32) (vF : Value)  (h0 : Heap) (n0 : Nat) (Z0 : n0 ≤ h0.size) (E_S : Exa Z h0 aS "java/lang/String") (F_c : Fld Z h0 aS "java/lang/String" "coder" "B" (.int 0)) (F_v : Fld Z h0 aS "java/lang/String" "value" "[B" (.ref aB)) (V_B : Arv Z h0 aB kB .byte (5 : Int32) [(.int (70 : Int32)), (.int (65 : Int32)), (.int (76 : Int32)), (.int (83 : Int32)), (.int (69 : Int32))] (.int 0)) (S_C : Sta Z h0 "java/lang/String" "COMPACT_STRINGS" "Z" (.int zC)) (nzC : ¬ zC = (0 : Int32)) (S_F : Sta Z h0 "jdk/internal/util/Preconditions" "SIOOBE_FORMATTER" "Ljava/util/function/BiFunction;" vF) (hF : vF.isRef = true)  :
    MetFree l (⟨"java/lang/String", "charAt", "(I)C"⟩ : MethodName) (head1 (Jvm.Cond.code (⟨"java/lang/String", "charAt", "(I)C"⟩ : MethodName) jdk_42_method_56_code 2 (some .char) :: ws) ({ frames := 3, cells := 0, slots := 0, locals := 40 } : Room)) (fun a U => a = #[(.ref aS), (.int (2 : Int32))] ∧ Z.Warmed39 U.vm ∧ U.heap = h0) (fun _ _ _ _ _ => True) (fun _ U o U' => ∃ v L, o = .returned v ∧ Q_rmCh_0_2  h0 n0 v U'.heap L ∧ FrameEnd U o U' L ({ frames := 3, cells := 0, slots := 0, locals := 40 } : Room).cells ({ frames := 3, cells := 0, slots := 0, locals := 40 } : Room).slots) := by
  refine MetFree.of_bodySF (plainFor_of_name pn_2) hisR ?_
  intro p e s m args below meth c s₁ Bd hml0 hP hK
  obtain ⟨rfl, hZ, hh⟩ := hP
  have hx := Bd.exec
  have hby := Bd.bytes
  have hml : c.maxLocals = 2 := hml0
  have hown : s.vm.findClass "java/lang/String" = some m.cls := findClass_of_methodNamed Bd.named
  have hnm := (name_of_methodNamed Bd.named Bd.method).1
  have X0 : Stand p l e ({ frames := 3, cells := 0, slots := 0, locals := 40 } : Room) s m #[(.ref aS), (.int (2 : Int32))] below meth c s₁ [] 0 0 := Stand.of_body Bd
  have e0 : s₁.heap = h0 := by rw [← hh, Bd.state]; rfl
  have N0 := Fr.nil n0
  let PO : Outcome → State → Prop := own_PO s (Q_rmCh_0_2  h0 n0) 0 0
  show own_Go p e below PO (s₁.setTop (entryFrame m #[(.ref aS), (.int (2 : Int32))] 2))
  rw [ef_rmCh_0_2]
  show own_Go p e below PO (s₁.setTop (mkF m 0 #[.val (.ref aS), .val (.int (2 : Int32))] []))
  refine own_back ?_ (fun t k => XS.aloadN X0.here hx rfl (hb hby d7_0) rfl rfl k)
  show own_Go p e below PO (s₁.setTop (mkF m 1 #[.val (.ref aS), .val (.int (2 : Int32))] [(.ref aS)]))
  obtain ⟨cq1, kq1, q1a, q1b, q1c⟩ := isOf hZ e0 E_S
  obtain ⟨_, _, ⟨T1, L1, k1, n1⟩, -, X1, ⟨Lc1, hQ1, l1, y1, z1⟩, st1⟩ := X0.virtualBack hx (y := (⟨"java/lang/String", "isLatin1", "()Z"⟩ : MethodName)) (z := (⟨"java/lang/String", "isLatin1", "()Z"⟩ : MethodName)) hown (mvT hZ (hw _ (List.mem_of_getElem? (i := 47) rfl))) (mvT hZ (hw _ (List.mem_of_getElem? (i := 48) rfl))) (notFace_of_selects (args := #[]) (mvT hZ (hw _ (List.mem_of_getElem? (i := 50) rfl)))) (mvT hZ (hw _ (List.mem_of_getElem? (i := 50) rfl))) (mvT hZ (hw _ (List.mem_of_getElem? (i := 49) rfl))) (by decide) (backOf (W := 0) (rm8 l Z a0 hw [] aS zC h0 n0 Z0 F_c S_C nzC) hZ (hw _ (List.mem_of_getElem? (i := 51) rfl)) (hw _ (List.mem_of_getElem? (i := 22) rfl)) (by decide) (by decide)) q1a q1c (g := (mkF m 1 #[.val (.ref aS), .val (.int (2 : Int32))] [(.ref aS)])) rfl (by rw [hml]; rfl) (Steps.refl _) (argsL := []) (rest := []) (lenOf pd_4 rfl) rfl (by show 2 * 0 + _ ≤ _; exact Nat.le_of_eq rfl) (hb hby d7_1) (fun _ _ => ⟨rfl, e0, (by decide : 0 + 0 ≤ _), (by decide : 0 + 0 ≤ _)⟩)
  dsimp only [Pt.U, Pt.locs, Pt.cells, Pt.slots] at X1 l1 y1 z1 st1 hQ1
  subst l1 y1 z1
  obtain ⟨rfl, N1q, e1⟩ := hQ1
  have N1 := Fr.app N0 N1q
  refine own_back ?_ (fun t k => st1.trans k)
  show own_Go p e below PO (T1.setTop (mkF m 4 #[.val (.ref aS), .val (.int (2 : Int32))] [(.int (1 : Int32))]))
  have hd4_2 : ¬ ((1 : Int32) = (0 : Int32)) := (by decide)
  refine own_back ?_ (fun t k => XS.ifNo X1.here hx rfl (hb hby d7_4) rfl ((if0 _ _).trans (feq hd4_2).1) k)
  show own_Go p e below PO (T1.setTop (mkF m 7 #[.val (.ref aS), .val (.int (2 : Int32))] []))
  refine own_back ?_ (fun t k => XS.aloadN X1.here hx rfl (hb hby d7_7) rfl rfl k)
  show own_Go p e below PO (T1.setTop (mkF m 8 #[.val (.ref aS), .val (.int (2 : Int32))] [(.ref aS)]))
  obtain ⟨T3, X3, e3, st3⟩ := getF X1 hx hZ hown (host := "") (Or.inl (hw _ (List.mem_of_getElem? (i := 34) rfl))) Via.refl e1 F_v (g := (mkF m 8 #[.val (.ref aS), .val (.int (2 : Int32))] [(.ref aS)])) rfl rfl (hb hby d7_8)
  refine own_back ?_ st3
  show own_Go p e below PO (T3.setTop (mkF m 11 #[.val (.ref aS), .val (.int (2 : Int32))] [(.ref aB)]))
  refine own_back ?_ (fun t k => XS.iloadN X3.here hx rfl (hb hby d7_11) rfl k)
  show own_Go p e below PO (T3.setTop (mkF m 12 #[.val (.ref aS), .val (.int (2 : Int32))] [(.int (2 : Int32)), (.ref aB)]))
  obtain ⟨_, _, ⟨T4, L4, k4, n4⟩, -, X4, ⟨Lc4, hQ4, l4, y4, z4⟩, st4⟩ := Jvm.LawKit.callS X3 hx (y := (⟨"java/lang/StringLatin1", "charAt", "([BI)C"⟩ : MethodName)) hown (mvT hZ (hw _ (List.mem_of_getElem? (i := 52) rfl))) (mvT hZ (hw _ (List.mem_of_getElem? (i := 53) rfl))) (mvT hZ (hw _ (List.mem_of_getElem? (i := 54) rfl))) (mvT hZ (hw _ (List.mem_of_getElem? (i := 55) rfl))) (by decide) (backOf (W := 0) (rmL_0_2 l Z a0 hw [] aB kB vF  h0 n0 Z0 V_B S_F hF ) hZ (hw _ (List.mem_of_getElem? (i := 55) rfl)) (hw _ (List.mem_of_getElem? (i := 54) rfl)) (by decide) (by decide)) (g := (mkF m 12 #[.val (.ref aS), .val (.int (2 : Int32))] [(.int (2 : Int32)), (.ref aB)])) rfl (by rw [hml]; rfl) (argsL := [(.ref aB), (.int (2 : Int32))]) (rest := []) (lenOf pd_5 rfl) rfl (by show 2 * 0 + _ ≤ _; exact Nat.le_of_eq rfl) (hb hby d7_12) (fun _ _ => ⟨rfl, e3, (by decide : 0 + 0 ≤ _), (by decide : 0 + 0 ≤ _)⟩)
  dsimp only [Pt.U, Pt.locs, Pt.cells, Pt.slots] at X4 l4 y4 z4 st4 hQ4
  subst l4 y4 z4
  obtain ⟨rfl, N4q, e4⟩ := hQ4
  have N4 := Fr.app N1 N4q
  refine own_back ?_ st4
  show own_Go p e below PO (T4.setTop (mkF m 15 #[.val (.ref aS), .val (.int (2 : Int32))] [(.int (76 : Int32))]))
  refine own_retN X4 hx (t := .char) (rest := []) Bd.returns (by decide) (by simp) (hb hby d7_15) e4 (Bd.notSynchronized) ?_ (by decide) (by decide)
  exact ⟨by first | rfl | decide, N4, rfl⟩
theorem ef_rmL_0_3 (m : MethodId) (x0 : Addr) (x1 : Int32) : entryFrame m #[(.ref x0), (.int x1)] 2 = mkF m 0 #[.val (.ref x0), .val (.int x1)] [] := by first | (simp [entryFrame, mkF, argsToLocals, Value.category]; done) | rfl
def Q_rmL_0_3  (h0 : Heap) (n0 : Nat) (v : Option Value) (h : Heap) (L : List Loc) : Prop := v = some (.int (83 : Int32)) ∧ Fr n0 L ∧ h = h0
set_option maxRecDepth 65536 in
set_option maxHeartbeats 40000000 in
theorem rmL_0_3 (l : Launch) (Z : State) (a0 : Array Value) (hw : ∀ d ∈ tables_1, d.before a0 Z = true) (ws : List Jvm.Cond) (aB : Addr) (kB : ClassId) (vF : Value)  (h0 : Heap) (n0 : Nat) (Z0 : n0 ≤ h0.size) (V_B : Arv Z h0 aB kB .byte (5 : Int32) [(.int (70 : Int32)), (.int (65 : Int32)), (.int (76 : Int32)), (.int (83 : Int32)), (.int (69 : Int32))] (.int 0)) (S_F : Sta Z h0 "jdk/internal/util/Preconditions" "SIOOBE_FORMATTER" "Ljava/util/function/BiFunction;" vF) (hF : vF.isRef = true)  :
    MetFree l (⟨"java/lang/StringLatin1", "charAt", "([BI)C"⟩ : MethodName) (head1 (Jvm.Cond.code (⟨"java/lang/StringLatin1", "charAt", "([BI)C"⟩ : MethodName) jdk_43_method_2_code 2 (some .char) :: ws) ({ frames := 2, cells := 0, slots := 0, locals := 27 } : Room)) (fun a U => a = #[(.ref aB), (.int (3 : Int32))] ∧ Z.Warmed39 U.vm ∧ U.heap = h0) (fun _ _ _ _ _ => True) (fun _ U o U' => ∃ v L, o = .returned v ∧ Q_rmL_0_3  h0 n0 v U'.heap L ∧ FrameEnd U o U' L ({ frames := 2, cells := 0, slots := 0, locals := 27 } : Room).cells ({ frames := 2, cells := 0, slots := 0, locals := 27 } : Room).slots) := by
  refine MetFree.of_bodySF (plainFor_of_name pn_4) hisR ?_
  intro p e s m args below meth c s₁ Bd hml0 hP hK
  obtain ⟨rfl, hZ, hh⟩ := hP
  have hx := Bd.exec
  have hby := Bd.bytes
  have hml : c.maxLocals = 2 := hml0
  have hown : s.vm.findClass "java/lang/StringLatin1" = some m.cls := findClass_of_methodNamed Bd.named
  have hnm := (name_of_methodNamed Bd.named Bd.method).1
  have X0 : Stand p l e ({ frames := 2, cells := 0, slots := 0, locals := 27 } : Room) s m #[(.ref aB), (.int (3 : Int32))] below meth c s₁ [] 0 0 := Stand.of_body Bd
  have e0 : s₁.heap = h0 := by rw [← hh, Bd.state]; rfl
  have N0 := Fr.nil n0
  let PO : Outcome → State → Prop := own_PO s (Q_rmL_0_3  h0 n0) 0 0
  show own_Go p e below PO (s₁.setTop (entryFrame m #[(.ref aB), (.int (3 : Int32))] 2))
  rw [ef_rmL_0_3]
  show own_Go p e below PO (s₁.setTop (mkF m 0 #[.val (.ref aB), .val (.int (3 : Int32))] []))
  refine own_back ?_ (fun t k => XS.iloadN X0.here hx rfl (hb hby d9_0) rfl k)
  show own_Go p e below PO (s₁.setTop (mkF m 1 #[.val (.ref aB), .val (.int (3 : Int32))] [(.int (3 : Int32))]))
  refine own_back ?_ (fun t k => XS.aloadN X0.here hx rfl (hb hby d9_1) rfl rfl k)
  show own_Go p e below PO (s₁.setTop (mkF m 2 #[.val (.ref aB), .val (.int (3 : Int32))] [(.ref aB), (.int (3 : Int32))]))
  refine own_back ?_ (own_len X0 hx hZ e0 V_B (g := (mkF m 2 #[.val (.ref aB), .val (.int (3 : Int32))] [(.ref aB), (.int (3 : Int32))])) rfl rfl (hb hby d9_2))
  show own_Go p e below PO (s₁.setTop (mkF m 3 #[.val (.ref aB), .val (.int (3 : Int32))] [(.int (5 : Int32)), (.int (3 : Int32))]))
  obtain ⟨_, _, ⟨T1, L1, k1, n1⟩, -, X1, ⟨Lc1, hQ1, l1, y1, z1⟩, st1⟩ := Jvm.LawKit.callS X0 hx (y := (⟨"java/lang/String", "checkIndex", "(II)V"⟩ : MethodName)) hown (mvT hZ (hw _ (List.mem_of_getElem? (i := 56) rfl))) (mvT hZ (hw _ (List.mem_of_getElem? (i := 57) rfl))) (mvT hZ (hw _ (List.mem_of_getElem? (i := 22) rfl))) (mvT hZ (hw _ (List.mem_of_getElem? (i := 58) rfl))) (by decide) (backOf (W := 0) (rmCI l Z a0 hw [] (3 : Int32) (5 : Int32) vF h0 n0 Z0 S_F hF (by decide) (by decide)) hZ (hw _ (List.mem_of_getElem? (i := 58) rfl)) (hw _ (List.mem_of_getElem? (i := 22) rfl)) (by decide) (by decide)) (g := (mkF m 3 #[.val (.ref aB), .val (.int (3 : Int32))] [(.int (5 : Int32)), (.int (3 : Int32))])) rfl (by rw [hml]; rfl) (argsL := [(.int (3 : Int32)), (.int (5 : Int32))]) (rest := []) (lenOf pd_3 rfl) rfl (by show 2 * 0 + _ ≤ _; exact Nat.le_of_eq rfl) (hb hby d9_3) (fun _ _ => ⟨rfl, e0, (by decide : 0 + 0 ≤ _), (by decide : 0 + 0 ≤ _)⟩)
  dsimp only [Pt.U, Pt.locs, Pt.cells, Pt.slots] at X1 l1 y1 z1 st1 hQ1
  subst l1 y1 z1
  obtain ⟨rfl, N1q, e1⟩ := hQ1
  have N1 := Fr.app N0 N1q
  refine own_back ?_ st1
  show own_Go p e below PO (T1.setTop (mkF m 6 #[.val (.ref aB), .val (.int (3 : Int32))] []))
  refine own_back ?_ (fun t k => XS.aloadN X1.here hx rfl (hb hby d9_6) rfl rfl k)
  show own_Go p e below PO (T1.setTop (mkF m 7 #[.val (.ref aB), .val (.int (3 : Int32))] [(.ref aB)]))
  refine own_back ?_ (fun t k => XS.iloadN X1.here hx rfl (hb hby d9_7) rfl k)
  show own_Go p e below PO (T1.setTop (mkF m 8 #[.val (.ref aB), .val (.int (3 : Int32))] [(.int (3 : Int32)), (.ref aB)]))
  refine own_back ?_ (own_ldB X1 hx hZ e1 V_B (j := (3 : Int32)) (v := (.int (83 : Int32))) ⟨by decide, by decide⟩ rfl (g := (mkF m 8 #[.val (.ref aB), .val (.int (3 : Int32))] [(.int (3 : Int32)), (.ref aB)])) rfl rfl (hb hby d9_8))
  show own_Go p e below PO (T1.setTop (mkF m 9 #[.val (.ref aB), .val (.int (3 : Int32))] [(.int (83 : Int32))]))
  refine own_back ?_ (fun t k => XS.sipush X1.here hx rfl (hb hby d9_9) k)
  show own_Go p e below PO (T1.setTop (mkF m 12 #[.val (.ref aB), .val (.int (3 : Int32))] [(.int (255 : Int32)), (.int (83 : Int32))]))
  refine own_back ?_ (fun t k => XS.iand X1.here hx rfl (hb hby d9_12) rfl k)
  show own_Go p e below PO (T1.setTop (mkF m 13 #[.val (.ref aB), .val (.int (3 : Int32))] [(.int (83 : Int32))]))
  refine own_back ?_ (fun t k => XS.i2c X1.here hx rfl (hb hby d9_13) rfl k)
  show own_Go p e below PO (T1.setTop (mkF m 14 #[.val (.ref aB), .val (.int (3 : Int32))] [(.int ((83 : Int32).toUInt32.toUInt16.toUInt32.toInt32))]))
  refine own_retN X1 hx (t := .char) (rest := []) Bd.returns (by decide) (by simp) (hb hby d9_14) e1 (Bd.notSynchronized) ?_ (by decide) (by decide)
  exact ⟨congrArg (fun z => some (Value.int z)) (by first | rfl | decide), N1, rfl⟩
theorem ef_rmCh_0_3 (m : MethodId) (x0 : Addr) (x1 : Int32) : entryFrame m #[(.ref x0), (.int x1)] 2 = mkF m 0 #[.val (.ref x0), .val (.int x1)] [] := by first | (simp [entryFrame, mkF, argsToLocals, Value.category]; done) | rfl
def Q_rmCh_0_3  (h0 : Heap) (n0 : Nat) (v : Option Value) (h : Heap) (L : List Loc) : Prop := v = some (.int (83 : Int32)) ∧ Fr n0 L ∧ h = h0
set_option maxRecDepth 65536 in
set_option maxHeartbeats 40000000 in
theorem rmCh_0_3 (l : Launch) (Z : State) (a0 : Array Value) (hw : ∀ d ∈ tables_1, d.before a0 Z = true) (ws : List Jvm.Cond) (aS : Addr) (aB : Addr) (kB : ClassId) (zC : Int32) (vF : Value)  (h0 : Heap) (n0 : Nat) (Z0 : n0 ≤ h0.size) (E_S : Exa Z h0 aS "java/lang/String") (F_c : Fld Z h0 aS "java/lang/String" "coder" "B" (.int 0)) (F_v : Fld Z h0 aS "java/lang/String" "value" "[B" (.ref aB)) (V_B : Arv Z h0 aB kB .byte (5 : Int32) [(.int (70 : Int32)), (.int (65 : Int32)), (.int (76 : Int32)), (.int (83 : Int32)), (.int (69 : Int32))] (.int 0)) (S_C : Sta Z h0 "java/lang/String" "COMPACT_STRINGS" "Z" (.int zC)) (nzC : ¬ zC = (0 : Int32)) (S_F : Sta Z h0 "jdk/internal/util/Preconditions" "SIOOBE_FORMATTER" "Ljava/util/function/BiFunction;" vF) (hF : vF.isRef = true)  :
    MetFree l (⟨"java/lang/String", "charAt", "(I)C"⟩ : MethodName) (head1 (Jvm.Cond.code (⟨"java/lang/String", "charAt", "(I)C"⟩ : MethodName) jdk_42_method_56_code 2 (some .char) :: ws) ({ frames := 3, cells := 0, slots := 0, locals := 40 } : Room)) (fun a U => a = #[(.ref aS), (.int (3 : Int32))] ∧ Z.Warmed39 U.vm ∧ U.heap = h0) (fun _ _ _ _ _ => True) (fun _ U o U' => ∃ v L, o = .returned v ∧ Q_rmCh_0_3  h0 n0 v U'.heap L ∧ FrameEnd U o U' L ({ frames := 3, cells := 0, slots := 0, locals := 40 } : Room).cells ({ frames := 3, cells := 0, slots := 0, locals := 40 } : Room).slots) := by
  refine MetFree.of_bodySF (plainFor_of_name pn_2) hisR ?_
  intro p e s m args below meth c s₁ Bd hml0 hP hK
  obtain ⟨rfl, hZ, hh⟩ := hP
  have hx := Bd.exec
  have hby := Bd.bytes
  have hml : c.maxLocals = 2 := hml0
  have hown : s.vm.findClass "java/lang/String" = some m.cls := findClass_of_methodNamed Bd.named
  have hnm := (name_of_methodNamed Bd.named Bd.method).1
  have X0 : Stand p l e ({ frames := 3, cells := 0, slots := 0, locals := 40 } : Room) s m #[(.ref aS), (.int (3 : Int32))] below meth c s₁ [] 0 0 := Stand.of_body Bd
  have e0 : s₁.heap = h0 := by rw [← hh, Bd.state]; rfl
  have N0 := Fr.nil n0
  let PO : Outcome → State → Prop := own_PO s (Q_rmCh_0_3  h0 n0) 0 0
  show own_Go p e below PO (s₁.setTop (entryFrame m #[(.ref aS), (.int (3 : Int32))] 2))
  rw [ef_rmCh_0_3]
  show own_Go p e below PO (s₁.setTop (mkF m 0 #[.val (.ref aS), .val (.int (3 : Int32))] []))
  refine own_back ?_ (fun t k => XS.aloadN X0.here hx rfl (hb hby d7_0) rfl rfl k)
  show own_Go p e below PO (s₁.setTop (mkF m 1 #[.val (.ref aS), .val (.int (3 : Int32))] [(.ref aS)]))
  obtain ⟨cq1, kq1, q1a, q1b, q1c⟩ := isOf hZ e0 E_S
  obtain ⟨_, _, ⟨T1, L1, k1, n1⟩, -, X1, ⟨Lc1, hQ1, l1, y1, z1⟩, st1⟩ := X0.virtualBack hx (y := (⟨"java/lang/String", "isLatin1", "()Z"⟩ : MethodName)) (z := (⟨"java/lang/String", "isLatin1", "()Z"⟩ : MethodName)) hown (mvT hZ (hw _ (List.mem_of_getElem? (i := 47) rfl))) (mvT hZ (hw _ (List.mem_of_getElem? (i := 48) rfl))) (notFace_of_selects (args := #[]) (mvT hZ (hw _ (List.mem_of_getElem? (i := 50) rfl)))) (mvT hZ (hw _ (List.mem_of_getElem? (i := 50) rfl))) (mvT hZ (hw _ (List.mem_of_getElem? (i := 49) rfl))) (by decide) (backOf (W := 0) (rm8 l Z a0 hw [] aS zC h0 n0 Z0 F_c S_C nzC) hZ (hw _ (List.mem_of_getElem? (i := 51) rfl)) (hw _ (List.mem_of_getElem? (i := 22) rfl)) (by decide) (by decide)) q1a q1c (g := (mkF m 1 #[.val (.ref aS), .val (.int (3 : Int32))] [(.ref aS)])) rfl (by rw [hml]; rfl) (Steps.refl _) (argsL := []) (rest := []) (lenOf pd_4 rfl) rfl (by show 2 * 0 + _ ≤ _; exact Nat.le_of_eq rfl) (hb hby d7_1) (fun _ _ => ⟨rfl, e0, (by decide : 0 + 0 ≤ _), (by decide : 0 + 0 ≤ _)⟩)
  dsimp only [Pt.U, Pt.locs, Pt.cells, Pt.slots] at X1 l1 y1 z1 st1 hQ1
  subst l1 y1 z1
  obtain ⟨rfl, N1q, e1⟩ := hQ1
  have N1 := Fr.app N0 N1q
  refine own_back ?_ (fun t k => st1.trans k)
  show own_Go p e below PO (T1.setTop (mkF m 4 #[.val (.ref aS), .val (.int (3 : Int32))] [(.int (1 : Int32))]))
  have hd4_2 : ¬ ((1 : Int32) = (0 : Int32)) := (by decide)
  refine own_back ?_ (fun t k => XS.ifNo X1.here hx rfl (hb hby d7_4) rfl ((if0 _ _).trans (feq hd4_2).1) k)
  show own_Go p e below PO (T1.setTop (mkF m 7 #[.val (.ref aS), .val (.int (3 : Int32))] []))
  refine own_back ?_ (fun t k => XS.aloadN X1.here hx rfl (hb hby d7_7) rfl rfl k)
  show own_Go p e below PO (T1.setTop (mkF m 8 #[.val (.ref aS), .val (.int (3 : Int32))] [(.ref aS)]))
  obtain ⟨T3, X3, e3, st3⟩ := getF X1 hx hZ hown (host := "") (Or.inl (hw _ (List.mem_of_getElem? (i := 34) rfl))) Via.refl e1 F_v (g := (mkF m 8 #[.val (.ref aS), .val (.int (3 : Int32))] [(.ref aS)])) rfl rfl (hb hby d7_8)
  refine own_back ?_ st3
  show own_Go p e below PO (T3.setTop (mkF m 11 #[.val (.ref aS), .val (.int (3 : Int32))] [(.ref aB)]))
  refine own_back ?_ (fun t k => XS.iloadN X3.here hx rfl (hb hby d7_11) rfl k)
  show own_Go p e below PO (T3.setTop (mkF m 12 #[.val (.ref aS), .val (.int (3 : Int32))] [(.int (3 : Int32)), (.ref aB)]))
  obtain ⟨_, _, ⟨T4, L4, k4, n4⟩, -, X4, ⟨Lc4, hQ4, l4, y4, z4⟩, st4⟩ := Jvm.LawKit.callS X3 hx (y := (⟨"java/lang/StringLatin1", "charAt", "([BI)C"⟩ : MethodName)) hown (mvT hZ (hw _ (List.mem_of_getElem? (i := 52) rfl))) (mvT hZ (hw _ (List.mem_of_getElem? (i := 53) rfl))) (mvT hZ (hw _ (List.mem_of_getElem? (i := 54) rfl))) (mvT hZ (hw _ (List.mem_of_getElem? (i := 55) rfl))) (by decide) (backOf (W := 0) (rmL_0_3 l Z a0 hw [] aB kB vF  h0 n0 Z0 V_B S_F hF ) hZ (hw _ (List.mem_of_getElem? (i := 55) rfl)) (hw _ (List.mem_of_getElem? (i := 54) rfl)) (by decide) (by decide)) (g := (mkF m 12 #[.val (.ref aS), .val (.int (3 : Int32))] [(.int (3 : Int32)), (.ref aB)])) rfl (by rw [hml]; rfl) (argsL := [(.ref aB), (.int (3 : Int32))]) (rest := []) (lenOf pd_5 rfl) rfl (by show 2 * 0 + _ ≤ _; exact Nat.le_of_eq rfl) (hb hby d7_12) (fun _ _ => ⟨rfl, e3, (by decide : 0 + 0 ≤ _), (by decide : 0 + 0 ≤ _)⟩)
  dsimp only [Pt.U, Pt.locs, Pt.cells, Pt.slots] at X4 l4 y4 z4 st4 hQ4
  subst l4 y4 z4
  obtain ⟨rfl, N4q, e4⟩ := hQ4
  have N4 := Fr.app N1 N4q
  refine own_back ?_ st4
  show own_Go p e below PO (T4.setTop (mkF m 15 #[.val (.ref aS), .val (.int (3 : Int32))] [(.int (83 : Int32))]))
  refine own_retN X4 hx (t := .char) (rest := []) Bd.returns (by decide) (by simp) (hb hby d7_15) e4 (Bd.notSynchronized) ?_ (by decide) (by decide)
  exact ⟨by first | rfl | decide, N4, rfl⟩
theorem ef_rmL_0_4 (m : MethodId) (x0 : Addr) (x1 : Int32) : entryFrame m #[(.ref x0), (.int x1)] 2 = mkF m 0 #[.val (.ref x0), .val (.int x1)] [] := by first | (simp [entryFrame, mkF, argsToLocals, Value.category]; done) | rfl
def Q_rmL_0_4  (h0 : Heap) (n0 : Nat) (v : Option Value) (h : Heap) (L : List Loc) : Prop := v = some (.int (69 : Int32)) ∧ Fr n0 L ∧ h = h0
set_option maxRecDepth 65536 in
set_option maxHeartbeats 40000000 in
theorem rmL_0_4 (l : Launch) (Z : State) (a0 : Array Value) (hw : ∀ d ∈ tables_1, d.before a0 Z = true) (ws : List Jvm.Cond) (aB : Addr) (kB : ClassId) (vF : Value)  (h0 : Heap) (n0 : Nat) (Z0 : n0 ≤ h0.size) (V_B : Arv Z h0 aB kB .byte (5 : Int32) [(.int (70 : Int32)), (.int (65 : Int32)), (.int (76 : Int32)), (.int (83 : Int32)), (.int (69 : Int32))] (.int 0)) (S_F : Sta Z h0 "jdk/internal/util/Preconditions" "SIOOBE_FORMATTER" "Ljava/util/function/BiFunction;" vF) (hF : vF.isRef = true)  :
    MetFree l (⟨"java/lang/StringLatin1", "charAt", "([BI)C"⟩ : MethodName) (head1 (Jvm.Cond.code (⟨"java/lang/StringLatin1", "charAt", "([BI)C"⟩ : MethodName) jdk_43_method_2_code 2 (some .char) :: ws) ({ frames := 2, cells := 0, slots := 0, locals := 27 } : Room)) (fun a U => a = #[(.ref aB), (.int (4 : Int32))] ∧ Z.Warmed39 U.vm ∧ U.heap = h0) (fun _ _ _ _ _ => True) (fun _ U o U' => ∃ v L, o = .returned v ∧ Q_rmL_0_4  h0 n0 v U'.heap L ∧ FrameEnd U o U' L ({ frames := 2, cells := 0, slots := 0, locals := 27 } : Room).cells ({ frames := 2, cells := 0, slots := 0, locals := 27 } : Room).slots) := by
  refine MetFree.of_bodySF (plainFor_of_name pn_4) hisR ?_
  intro p e s m args below meth c s₁ Bd hml0 hP hK
  obtain ⟨rfl, hZ, hh⟩ := hP
  have hx := Bd.exec
  have hby := Bd.bytes
  have hml : c.maxLocals = 2 := hml0
  have hown : s.vm.findClass "java/lang/StringLatin1" = some m.cls := findClass_of_methodNamed Bd.named
  have hnm := (name_of_methodNamed Bd.named Bd.method).1
  have X0 : Stand p l e ({ frames := 2, cells := 0, slots := 0, locals := 27 } : Room) s m #[(.ref aB), (.int (4 : Int32))] below meth c s₁ [] 0 0 := Stand.of_body Bd
  have e0 : s₁.heap = h0 := by rw [← hh, Bd.state]; rfl
  have N0 := Fr.nil n0
  let PO : Outcome → State → Prop := own_PO s (Q_rmL_0_4  h0 n0) 0 0
  show own_Go p e below PO (s₁.setTop (entryFrame m #[(.ref aB), (.int (4 : Int32))] 2))
  rw [ef_rmL_0_4]
  show own_Go p e below PO (s₁.setTop (mkF m 0 #[.val (.ref aB), .val (.int (4 : Int32))] []))
  refine own_back ?_ (fun t k => XS.iloadN X0.here hx rfl (hb hby d9_0) rfl k)
  show own_Go p e below PO (s₁.setTop (mkF m 1 #[.val (.ref aB), .val (.int (4 : Int32))] [(.int (4 : Int32))]))
  refine own_back ?_ (fun t k => XS.aloadN X0.here hx rfl (hb hby d9_1) rfl rfl k)
  show own_Go p e below PO (s₁.setTop (mkF m 2 #[.val (.ref aB), .val (.int (4 : Int32))] [(.ref aB), (.int (4 : Int32))]))
  refine own_back ?_ (own_len X0 hx hZ e0 V_B (g := (mkF m 2 #[.val (.ref aB), .val (.int (4 : Int32))] [(.ref aB), (.int (4 : Int32))])) rfl rfl (hb hby d9_2))
  show own_Go p e below PO (s₁.setTop (mkF m 3 #[.val (.ref aB), .val (.int (4 : Int32))] [(.int (5 : Int32)), (.int (4 : Int32))]))
  obtain ⟨_, _, ⟨T1, L1, k1, n1⟩, -, X1, ⟨Lc1, hQ1, l1, y1, z1⟩, st1⟩ := Jvm.LawKit.callS X0 hx (y := (⟨"java/lang/String", "checkIndex", "(II)V"⟩ : MethodName)) hown (mvT hZ (hw _ (List.mem_of_getElem? (i := 56) rfl))) (mvT hZ (hw _ (List.mem_of_getElem? (i := 57) rfl))) (mvT hZ (hw _ (List.mem_of_getElem? (i := 22) rfl))) (mvT hZ (hw _ (List.mem_of_getElem? (i := 58) rfl))) (by decide) (backOf (W := 0) (rmCI l Z a0 hw [] (4 : Int32) (5 : Int32) vF h0 n0 Z0 S_F hF (by decide) (by decide)) hZ (hw _ (List.mem_of_getElem? (i := 58) rfl)) (hw _ (List.mem_of_getElem? (i := 22) rfl)) (by decide) (by decide)) (g := (mkF m 3 #[.val (.ref aB), .val (.int (4 : Int32))] [(.int (5 : Int32)), (.int (4 : Int32))])) rfl (by rw [hml]; rfl) (argsL := [(.int (4 : Int32)), (.int (5 : Int32))]) (rest := []) (lenOf pd_3 rfl) rfl (by show 2 * 0 + _ ≤ _; exact Nat.le_of_eq rfl) (hb hby d9_3) (fun _ _ => ⟨rfl, e0, (by decide : 0 + 0 ≤ _), (by decide : 0 + 0 ≤ _)⟩)
  dsimp only [Pt.U, Pt.locs, Pt.cells, Pt.slots] at X1 l1 y1 z1 st1 hQ1
  subst l1 y1 z1
  obtain ⟨rfl, N1q, e1⟩ := hQ1
  have N1 := Fr.app N0 N1q
  refine own_back ?_ st1
  show own_Go p e below PO (T1.setTop (mkF m 6 #[.val (.ref aB), .val (.int (4 : Int32))] []))
  refine own_back ?_ (fun t k => XS.aloadN X1.here hx rfl (hb hby d9_6) rfl rfl k)
  show own_Go p e below PO (T1.setTop (mkF m 7 #[.val (.ref aB), .val (.int (4 : Int32))] [(.ref aB)]))
  refine own_back ?_ (fun t k => XS.iloadN X1.here hx rfl (hb hby d9_7) rfl k)
  show own_Go p e below PO (T1.setTop (mkF m 8 #[.val (.ref aB), .val (.int (4 : Int32))] [(.int (4 : Int32)), (.ref aB)]))
  refine own_back ?_ (own_ldB X1 hx hZ e1 V_B (j := (4 : Int32)) (v := (.int (69 : Int32))) ⟨by decide, by decide⟩ rfl (g := (mkF m 8 #[.val (.ref aB), .val (.int (4 : Int32))] [(.int (4 : Int32)), (.ref aB)])) rfl rfl (hb hby d9_8))
  show own_Go p e below PO (T1.setTop (mkF m 9 #[.val (.ref aB), .val (.int (4 : Int32))] [(.int (69 : Int32))]))
  refine own_back ?_ (fun t k => XS.sipush X1.here hx rfl (hb hby d9_9) k)
  show own_Go p e below PO (T1.setTop (mkF m 12 #[.val (.ref aB), .val (.int (4 : Int32))] [(.int (255 : Int32)), (.int (69 : Int32))]))
  refine own_back ?_ (fun t k => XS.iand X1.here hx rfl (hb hby d9_12) rfl k)
  show own_Go p e below PO (T1.setTop (mkF m 13 #[.val (.ref aB), .val (.int (4 : Int32))] [(.int (69 : Int32))]))
  refine own_back ?_ (fun t k => XS.i2c X1.here hx rfl (hb hby d9_13) rfl k)
  show own_Go p e below PO (T1.setTop (mkF m 14 #[.val (.ref aB), .val (.int (4 : Int32))] [(.int ((69 : Int32).toUInt32.toUInt16.toUInt32.toInt32))]))
  refine own_retN X1 hx (t := .char) (rest := []) Bd.returns (by decide) (by simp) (hb hby d9_14) e1 (Bd.notSynchronized) ?_ (by decide) (by decide)
  exact ⟨congrArg (fun z => some (Value.int z)) (by first | rfl | decide), N1, rfl⟩
theorem ef_rmCh_0_4 (m : MethodId) (x0 : Addr) (x1 : Int32) : entryFrame m #[(.ref x0), (.int x1)] 2 = mkF m 0 #[.val (.ref x0), .val (.int x1)] [] := by first | (simp [entryFrame, mkF, argsToLocals, Value.category]; done) | rfl
def Q_rmCh_0_4  (h0 : Heap) (n0 : Nat) (v : Option Value) (h : Heap) (L : List Loc) : Prop := v = some (.int (69 : Int32)) ∧ Fr n0 L ∧ h = h0
set_option maxRecDepth 65536 in
set_option maxHeartbeats 40000000 in
theorem rmCh_0_4 (l : Launch) (Z : State) (a0 : Array Value) (hw : ∀ d ∈ tables_1, d.before a0 Z = true) (ws : List Jvm.Cond) (aS : Addr) (aB : Addr) (kB : ClassId) (zC : Int32) (vF : Value)  (h0 : Heap) (n0 : Nat) (Z0 : n0 ≤ h0.size) (E_S : Exa Z h0 aS "java/lang/String") (F_c : Fld Z h0 aS "java/lang/String" "coder" "B" (.int 0)) (F_v : Fld Z h0 aS "java/lang/String" "value" "[B" (.ref aB)) (V_B : Arv Z h0 aB kB .byte (5 : Int32) [(.int (70 : Int32)), (.int (65 : Int32)), (.int (76 : Int32)), (.int (83 : Int32)), (.int (69 : Int32))] (.int 0)) (S_C : Sta Z h0 "java/lang/String" "COMPACT_STRINGS" "Z" (.int zC)) (nzC : ¬ zC = (0 : Int32)) (S_F : Sta Z h0 "jdk/internal/util/Preconditions" "SIOOBE_FORMATTER" "Ljava/util/function/BiFunction;" vF) (hF : vF.isRef = true)  :
    MetFree l (⟨"java/lang/String", "charAt", "(I)C"⟩ : MethodName) (head1 (Jvm.Cond.code (⟨"java/lang/String", "charAt", "(I)C"⟩ : MethodName) jdk_42_method_56_code 2 (some .char) :: ws) ({ frames := 3, cells := 0, slots := 0, locals := 40 } : Room)) (fun a U => a = #[(.ref aS), (.int (4 : Int32))] ∧ Z.Warmed39 U.vm ∧ U.heap = h0) (fun _ _ _ _ _ => True) (fun _ U o U' => ∃ v L, o = .returned v ∧ Q_rmCh_0_4  h0 n0 v U'.heap L ∧ FrameEnd U o U' L ({ frames := 3, cells := 0, slots := 0, locals := 40 } : Room).cells ({ frames := 3, cells := 0, slots := 0, locals := 40 } : Room).slots) := by
  refine MetFree.of_bodySF (plainFor_of_name pn_2) hisR ?_
  intro p e s m args below meth c s₁ Bd hml0 hP hK
  obtain ⟨rfl, hZ, hh⟩ := hP
  have hx := Bd.exec
  have hby := Bd.bytes
  have hml : c.maxLocals = 2 := hml0
  have hown : s.vm.findClass "java/lang/String" = some m.cls := findClass_of_methodNamed Bd.named
  have hnm := (name_of_methodNamed Bd.named Bd.method).1
  have X0 : Stand p l e ({ frames := 3, cells := 0, slots := 0, locals := 40 } : Room) s m #[(.ref aS), (.int (4 : Int32))] below meth c s₁ [] 0 0 := Stand.of_body Bd
  have e0 : s₁.heap = h0 := by rw [← hh, Bd.state]; rfl
  have N0 := Fr.nil n0
  let PO : Outcome → State → Prop := own_PO s (Q_rmCh_0_4  h0 n0) 0 0
  show own_Go p e below PO (s₁.setTop (entryFrame m #[(.ref aS), (.int (4 : Int32))] 2))
  rw [ef_rmCh_0_4]
  show own_Go p e below PO (s₁.setTop (mkF m 0 #[.val (.ref aS), .val (.int (4 : Int32))] []))
  refine own_back ?_ (fun t k => XS.aloadN X0.here hx rfl (hb hby d7_0) rfl rfl k)
  show own_Go p e below PO (s₁.setTop (mkF m 1 #[.val (.ref aS), .val (.int (4 : Int32))] [(.ref aS)]))
  obtain ⟨cq1, kq1, q1a, q1b, q1c⟩ := isOf hZ e0 E_S
  obtain ⟨_, _, ⟨T1, L1, k1, n1⟩, -, X1, ⟨Lc1, hQ1, l1, y1, z1⟩, st1⟩ := X0.virtualBack hx (y := (⟨"java/lang/String", "isLatin1", "()Z"⟩ : MethodName)) (z := (⟨"java/lang/String", "isLatin1", "()Z"⟩ : MethodName)) hown (mvT hZ (hw _ (List.mem_of_getElem? (i := 47) rfl))) (mvT hZ (hw _ (List.mem_of_getElem? (i := 48) rfl))) (notFace_of_selects (args := #[]) (mvT hZ (hw _ (List.mem_of_getElem? (i := 50) rfl)))) (mvT hZ (hw _ (List.mem_of_getElem? (i := 50) rfl))) (mvT hZ (hw _ (List.mem_of_getElem? (i := 49) rfl))) (by decide) (backOf (W := 0) (rm8 l Z a0 hw [] aS zC h0 n0 Z0 F_c S_C nzC) hZ (hw _ (List.mem_of_getElem? (i := 51) rfl)) (hw _ (List.mem_of_getElem? (i := 22) rfl)) (by decide) (by decide)) q1a q1c (g := (mkF m 1 #[.val (.ref aS), .val (.int (4 : Int32))] [(.ref aS)])) rfl (by rw [hml]; rfl) (Steps.refl _) (argsL := []) (rest := []) (lenOf pd_4 rfl) rfl (by show 2 * 0 + _ ≤ _; exact Nat.le_of_eq rfl) (hb hby d7_1) (fun _ _ => ⟨rfl, e0, (by decide : 0 + 0 ≤ _), (by decide : 0 + 0 ≤ _)⟩)
  dsimp only [Pt.U, Pt.locs, Pt.cells, Pt.slots] at X1 l1 y1 z1 st1 hQ1
  subst l1 y1 z1
  obtain ⟨rfl, N1q, e1⟩ := hQ1
  have N1 := Fr.app N0 N1q
  refine own_back ?_ (fun t k => st1.trans k)
  show own_Go p e below PO (T1.setTop (mkF m 4 #[.val (.ref aS), .val (.int (4 : Int32))] [(.int (1 : Int32))]))
  have hd4_2 : ¬ ((1 : Int32) = (0 : Int32)) := (by decide)
  refine own_back ?_ (fun t k => XS.ifNo X1.here hx rfl (hb hby d7_4) rfl ((if0 _ _).trans (feq hd4_2).1) k)
  show own_Go p e below PO (T1.setTop (mkF m 7 #[.val (.ref aS), .val (.int (4 : Int32))] []))
  refine own_back ?_ (fun t k => XS.aloadN X1.here hx rfl (hb hby d7_7) rfl rfl k)
  show own_Go p e below PO (T1.setTop (mkF m 8 #[.val (.ref aS), .val (.int (4 : Int32))] [(.ref aS)]))
  obtain ⟨T3, X3, e3, st3⟩ := getF X1 hx hZ hown (host := "") (Or.inl (hw _ (List.mem_of_getElem? (i := 34) rfl))) Via.refl e1 F_v (g := (mkF m 8 #[.val (.ref aS), .val (.int (4 : Int32))] [(.ref aS)])) rfl rfl (hb hby d7_8)
  refine own_back ?_ st3
  show own_Go p e below PO (T3.setTop (mkF m 11 #[.val (.ref aS), .val (.int (4 : Int32))] [(.ref aB)]))
  refine own_back ?_ (fun t k => XS.iloadN X3.here hx rfl (hb hby d7_11) rfl k)
  show own_Go p e below PO (T3.setTop (mkF m 12 #[.val (.ref aS), .val (.int (4 : Int32))] [(.int (4 : Int32)), (.ref aB)]))
  obtain ⟨_, _, ⟨T4, L4, k4, n4⟩, -, X4, ⟨Lc4, hQ4, l4, y4, z4⟩, st4⟩ := Jvm.LawKit.callS X3 hx (y := (⟨"java/lang/StringLatin1", "charAt", "([BI)C"⟩ : MethodName)) hown (mvT hZ (hw _ (List.mem_of_getElem? (i := 52) rfl))) (mvT hZ (hw _ (List.mem_of_getElem? (i := 53) rfl))) (mvT hZ (hw _ (List.mem_of_getElem? (i := 54) rfl))) (mvT hZ (hw _ (List.mem_of_getElem? (i := 55) rfl))) (by decide) (backOf (W := 0) (rmL_0_4 l Z a0 hw [] aB kB vF  h0 n0 Z0 V_B S_F hF ) hZ (hw _ (List.mem_of_getElem? (i := 55) rfl)) (hw _ (List.mem_of_getElem? (i := 54) rfl)) (by decide) (by decide)) (g := (mkF m 12 #[.val (.ref aS), .val (.int (4 : Int32))] [(.int (4 : Int32)), (.ref aB)])) rfl (by rw [hml]; rfl) (argsL := [(.ref aB), (.int (4 : Int32))]) (rest := []) (lenOf pd_5 rfl) rfl (by show 2 * 0 + _ ≤ _; exact Nat.le_of_eq rfl) (hb hby d7_12) (fun _ _ => ⟨rfl, e3, (by decide : 0 + 0 ≤ _), (by decide : 0 + 0 ≤ _)⟩)
  dsimp only [Pt.U, Pt.locs, Pt.cells, Pt.slots] at X4 l4 y4 z4 st4 hQ4
  subst l4 y4 z4
  obtain ⟨rfl, N4q, e4⟩ := hQ4
  have N4 := Fr.app N1 N4q
  refine own_back ?_ st4
  show own_Go p e below PO (T4.setTop (mkF m 15 #[.val (.ref aS), .val (.int (4 : Int32))] [(.int (69 : Int32))]))
  refine own_retN X4 hx (t := .char) (rest := []) Bd.returns (by decide) (by simp) (hb hby d7_15) e4 (Bd.notSynchronized) ?_ (by decide) (by decide)
  exact ⟨by first | rfl | decide, N4, rfl⟩
theorem pd_6 : parseMethodDescriptor "(Z)V" = some ⟨[.boolean], none⟩ := by decide +kernel
theorem pd_7 : parseMethodDescriptor "()Ljava/lang/String;" = some ⟨[], some (.object "java/lang/String")⟩ := by decide +kernel
theorem pd_8 : parseMethodDescriptor "()I" = some ⟨[], some .int⟩ := by decide +kernel
theorem pd_9 : parseMethodDescriptor "(I)C" = some ⟨[.int], some .char⟩ := by decide +kernel
theorem pn_5 : plainName "com/example/juncture/juncture/eval/BooleanValueToStringPinLaw" = true := by first | (simp [plainName, overriddenIn]; done) | decide +kernel
theorem ef_rm0 (m : MethodId) (x0 : Int32) : entryFrame m #[(.int x0)] maxLocals = mkF m 0 #[.val (.int x0), .unset, .unset, .unset] [] := by first | (simp [entryFrame, mkF, argsToLocals, Value.category, maxLocals]; done) | rfl
def Q_rm0 (n0 : Nat) (v : Option Value) (h : Heap) (L : List Loc) : Prop := v = some (.int 1) ∧ Fr n0 L
set_option maxRecDepth 65536 in
set_option maxHeartbeats 40000000 in
theorem rm0 (l : Launch) (Z : State) (a0 : Array Value) (hw : ∀ d ∈ tables_1, d.before a0 Z = true) (ws : List Jvm.Cond) (pA : Int32) (zC : Int32) (vF : Value) (h0 : Heap) (n0 : Nat) (Z0 : n0 ≤ h0.size) (S_C : Sta Z h0 "java/lang/String" "COMPACT_STRINGS" "Z" (.int zC)) (nzC : ¬ zC = (0 : Int32)) (S_F : Sta Z h0 "jdk/internal/util/Preconditions" "SIOOBE_FORMATTER" "Ljava/util/function/BiFunction;" vF) (hF : vF.isRef = true) :
    MetFree l x (head1 (Jvm.Cond.code x code maxLocals ret :: ws) room_1) (fun a U => a = #[(.int pA)] ∧ Z.Warmed39 U.vm ∧ U.heap = h0 ∧ CHv Z consts_1 U.vm h0) (fun _ _ _ _ _ => True) (fun _ U o U' => ∃ v L, o = .returned v ∧ Q_rm0 n0 v U'.heap L ∧ ReturnedEndW U o U' L room_1.cells room_1.slots) := by
  refine MetFree.of_bodySF (plainFor_of_name pn_5) hisR ?_
  intro p e s m args below meth c s₁ Bd hml0 hP hK
  obtain ⟨rfl, hZ, hh, hCH⟩ := hP
  have hx := Bd.exec
  have hby := Bd.bytes
  have hml : c.maxLocals = 4 := hml0
  have hown : s.vm.findClass "com/example/juncture/juncture/eval/BooleanValueToStringPinLaw" = some m.cls := findClass_of_methodNamed Bd.named
  have hnm := (name_of_methodNamed Bd.named Bd.method).1
  have X0 : Stand p l e room_1 s m #[(.int pA)] below meth c s₁ [] 0 0 := Stand.of_body Bd
  have e0 : s₁.heap = h0 := by rw [← hh, Bd.state]; rfl
  have N0 := Fr.nil n0
  have hS0 : s.Since s.vm 0 := (State.WarmedH.refl s).since 0
  let PO : Outcome → State → Prop := own_POW s (Q_rm0 n0) 16 2176
  show own_Go p e below PO (s₁.setTop (entryFrame m #[(.int pA)] maxLocals))
  rw [ef_rm0]
  show own_Go p e below PO (s₁.setTop (mkF m 0 #[.val (.int pA), .unset, .unset, .unset] []))
  refine own_back ?_ (fun t k => XS.iloadN X0.here hx rfl (hb hby at_0) rfl k)
  show own_Go p e below PO (s₁.setTop (mkF m 1 #[.val (.int pA), .unset, .unset, .unset] [(.int pA)]))
  refine own_back ?_ (fun t k => XS.iconst X0.here hx rfl (hb hby at_1) k)
  show own_Go p e below PO (s₁.setTop (mkF m 2 #[.val (.int pA), .unset, .unset, .unset] [(.int (1 : Int32)), (.int pA)]))
  refine own_back ?_ (fun t k => XS.iand X0.here hx rfl (hb hby at_2) rfl k)
  show own_Go p e below PO (s₁.setTop (mkF m 3 #[.val (.int pA), .unset, .unset, .unset] [(.int (pA &&& (1 : Int32)))]))
  by_cases hc3_1 : (pA &&& (1 : Int32)) = (0 : Int32)
  case pos =>
    refine own_back ?_ (fun t k => XS.ifYes X0.here hx rfl (pc0 := 3) (pc' := 10) rfl (hb hby at_3) rfl ((if0 _ _).trans (teq hc3_1).1) (by decide) (by decide) k)
    show own_Go p e below PO (s₁.setTop (mkF m 10 #[.val (.int pA), .unset, .unset, .unset] []))
    refine own_back ?_ (fun t k => XS.iconst X0.here hx rfl (hb hby at_10) k)
    show own_Go p e below PO (s₁.setTop (mkF m 11 #[.val (.int pA), .unset, .unset, .unset] [(.int (0 : Int32))]))
    refine own_back ?_ (fun t k => XS.istoreN X0.here hx rfl (hb hby at_11) rfl (l' := #[.val (.int pA), .val (.int (0 : Int32)), .unset, .unset]) rfl k)
    show own_Go p e below PO (s₁.setTop (mkF m 12 #[.val (.int pA), .val (.int (0 : Int32)), .unset, .unset] []))
    obtain ⟨T2, h2, X2, e2, E2, A2, D2, -, st2⟩ := newO X0 hx hZ hown (hw _ (List.mem_of_getElem? (i := 0) rfl)) (hw _ (List.mem_of_getElem? (i := 1) rfl)) (hw _ (List.mem_of_getElem? (i := 2) rfl)) e0 (g := (mkF m 12 #[.val (.int pA), .val (.int (0 : Int32)), .unset, .unset] [])) rfl (hb hby at_12) (by decide) (by decide)
    obtain ⟨b2, g2⟩ : ∃ z, z = h0.size := ⟨_, rfl⟩
    rw [← g2] at A2 D2 st2
    have sz_b2 : h0.size ≤ b2 := Nat.le_of_eq g2.symm
    have gn_b2 : n0 ≤ b2 := Nat.le_trans Z0 sz_b2
    have K2 : Keep h0 h2 [] := (Keep.refl h0 []).ext E2
    have Zh2 : n0 ≤ h2.size := Nat.le_trans Z0 K2.1
    have F2_value : Fld Z h2 b2 "com/example/juncture/juncture/eval/BooleanValue" "value" "Z" (.int (0 : Int32)) := D2 (Or.inr (hw _ (List.mem_of_getElem? (i := 15) rfl))) (ty := .boolean) (by decide)
    refine own_back ?_ st2
    show own_Go p e below PO (T2.setTop (mkF m 15 #[.val (.int pA), .val (.int (0 : Int32)), .unset, .unset] [(.ref b2)]))
    refine own_back ?_ (fun t k => XS.dup X2.here hx rfl (hb hby at_15) rfl rfl k)
    show own_Go p e below PO (T2.setTop (mkF m 16 #[.val (.int pA), .val (.int (0 : Int32)), .unset, .unset] [(.ref b2), (.ref b2)]))
    refine own_back ?_ (fun t k => XS.iloadN X2.here hx rfl (hb hby at_16) rfl k)
    show own_Go p e below PO (T2.setTop (mkF m 17 #[.val (.int pA), .val (.int (0 : Int32)), .unset, .unset] [(.int (0 : Int32)), (.ref b2), (.ref b2)]))
    obtain ⟨_, _, ⟨T3, L3, k3, n3⟩, -, X3, ⟨Lc3, hQ3, l3, y3, z3⟩, st3⟩ := X2.specialBack hx (y := (⟨"com/example/juncture/juncture/eval/BooleanValue", "<init>", "(Z)V"⟩ : MethodName)) rfl hown (mvT hZ (hw _ (List.mem_of_getElem? (i := 3) rfl))) (mvT hZ (hw _ (List.mem_of_getElem? (i := 4) rfl))) (mvT hZ (hw _ (List.mem_of_getElem? (i := 5) rfl))) (by decide) (backOf (W := 1) (rmIni_0 l Z a0 hw [] b2  h2 n0 Zh2 A2 F2_value gn_b2) hZ (hw _ (List.mem_of_getElem? (i := 5) rfl)) (hw _ (List.mem_of_getElem? (i := 2) rfl)) (by decide) (by decide)) (g := (mkF m 17 #[.val (.int pA), .val (.int (0 : Int32)), .unset, .unset] [(.int (0 : Int32)), (.ref b2), (.ref b2)])) rfl (by rw [hml]; rfl) (Steps.refl _) (a := b2) (argsL := [(.int (0 : Int32))]) (rest := [(.ref b2)]) (lenOf pd_6 rfl) rfl (by show 2 * 0 + _ ≤ _; exact Nat.le_of_eq rfl) (hb hby at_17) (fun _ _ => ⟨rfl, e2, (by decide : 1 + 0 ≤ _), (by decide : 1 + 0 ≤ _)⟩)
    dsimp only [Pt.U, Pt.locs, Pt.cells, Pt.slots] at X3 l3 y3 z3 st3 hQ3
    subst l3 y3 z3
    obtain ⟨rfl, N3q, Kc3, FV3⟩ := hQ3
    have N3 := Fr.app N0 N3q
    have f3_4 := A2.keep Kc3
    have K3 : Keep h0 T3.heap [] := (K2).trans Kc3 (allS (Or.inr sz_b2) all0)
    have Zh3 : n0 ≤ T3.heap.size := Nat.le_trans Z0 K3.1
    refine own_back ?_ (fun t k => st3.trans k)
    show own_Go p e below PO (T3.setTop (mkF m 20 #[.val (.int pA), .val (.int (0 : Int32)), .unset, .unset] [(.ref b2)]))
    refine own_back ?_ (fun t k => XS.astoreN X3.here hx rfl (hb hby at_20) rfl rfl (l' := #[.val (.int pA), .val (.int (0 : Int32)), .val (.ref b2), .unset]) rfl k)
    show own_Go p e below PO (T3.setTop (mkF m 21 #[.val (.int pA), .val (.int (0 : Int32)), .val (.ref b2), .unset] []))
    refine own_back ?_ (fun t k => XS.aloadN X3.here hx rfl (hb hby at_21) rfl rfl k)
    show own_Go p e below PO (T3.setTop (mkF m 22 #[.val (.int pA), .val (.int (0 : Int32)), .val (.ref b2), .unset] [(.ref b2)]))
    obtain ⟨cq5, kq5, q5a, q5b, q5c⟩ := isOf hZ rfl f3_4
    obtain ⟨_, _, ⟨T5, L5, k5, n5⟩, -, X5, hSn5, hgr5, ⟨Lc5, hQ5, l5, y5, z5, -⟩, st5⟩ := X3.virtualBackS hx (y := (⟨"com/example/juncture/juncture/eval/BooleanValue", "toString", "()Ljava/lang/String;"⟩ : MethodName)) (z := (⟨"com/example/juncture/juncture/eval/BooleanValue", "toString", "()Ljava/lang/String;"⟩ : MethodName)) hown (mvT hZ (hw _ (List.mem_of_getElem? (i := 16) rfl))) (mvT hZ (hw _ (List.mem_of_getElem? (i := 17) rfl))) (notFace_of_selects (args := #[]) (mvT hZ (hw _ (List.mem_of_getElem? (i := 19) rfl)))) (mvT hZ (hw _ (List.mem_of_getElem? (i := 19) rfl))) (mvT hZ (hw _ (List.mem_of_getElem? (i := 18) rfl))) (by decide) (backOfSH (s := s) (vm0 := s.vm) (W := 0) (rmTS_0 l Z a0 hw [] b2  T3.heap n0 Zh3 f3_4 FV3) hZ (hw _ (List.mem_of_getElem? (i := 20) rfl)) (hw _ (List.mem_of_getElem? (i := 2) rfl)) (by decide) (by decide) (own_EW hw) (CHv.keep K3 all0 hCH)) q5a q5c (g := (mkF m 22 #[.val (.int pA), .val (.int (0 : Int32)), .val (.ref b2), .unset] [(.ref b2)])) rfl (by rw [hml]; rfl) (Steps.refl _) (argsL := []) (rest := []) (lenOf pd_7 rfl) rfl (by show 2 * 0 + _ ≤ _; exact Nat.le_of_eq rfl) (hb hby at_22) (fun _ _ => ⟨rfl, rfl, (by decide : 1 + 2 ≤ _), (by decide : 1 + 24 ≤ _)⟩)
    dsimp only [Pt.U, Pt.locs, Pt.cells, Pt.slots] at X5 l5 y5 z5 st5 hQ5
    subst l5 y5 z5
    replace X5 : Stand p l e room_1 (s.setVm T5.vm) m #[(.int pA)] below meth c T5 _ _ _ := X5
    have hS5 : s.Since T5.vm T5.heap.size := foldS (s := s) (vm0 := s.vm) (T := T3) hS0 (Nat.zero_le _) hSn5 hgr5
    have hZ : Z.Warmed39 (s.setVm T5.vm).vm := State.Warmed39.trans (t := s.setVm s.vm) hZ hSn5.1
    have hown : (s.setVm T5.vm).vm.findClass "com/example/juncture/juncture/eval/BooleanValueToStringPinLaw" = some m.cls := by rw [show (s.setVm T5.vm).vm = T5.vm from rfl, hSn5.1.alike.findClass]; exact hown
    obtain ⟨aS, aB, kB, rfl, N5q, Kc5, ES, FC, FV, VB⟩ := hQ5
    have N5 := Fr.app N3 N5q
    have f5_6 := f3_4.keep Kc5
    have f5_7 := FV3.keep Kc5 nin0
    have K5 : Keep h0 T5.heap [] := (K3).trans Kc5 all0
    have Zh5 : n0 ≤ T5.heap.size := Nat.le_trans Z0 K5.1
    refine own_back ?_ (fun t k => st5.trans k)
    show own_Go p e below PO (T5.setTop (mkF m 25 #[.val (.int pA), .val (.int (0 : Int32)), .val (.ref b2), .unset] [(.ref aS)]))
    refine own_back ?_ (fun t k => XS.astoreN X5.here hx rfl (hb hby at_25) rfl rfl (l' := #[.val (.int pA), .val (.int (0 : Int32)), .val (.ref b2), .val (.ref aS)]) rfl k)
    show own_Go p e below PO (T5.setTop (mkF m 26 #[.val (.int pA), .val (.int (0 : Int32)), .val (.ref b2), .val (.ref aS)] []))
    refine own_back ?_ (fun t k => XS.iloadN X5.here hx rfl (hb hby at_26) rfl k)
    show own_Go p e below PO (T5.setTop (mkF m 27 #[.val (.int pA), .val (.int (0 : Int32)), .val (.ref b2), .val (.ref aS)] [(.int (0 : Int32))]))
    refine own_back ?_ (fun t k => XS.ifYes X5.here hx rfl (pc0 := 27) (pc' := 84) rfl (hb hby at_27) rfl ((if0 _ _).trans (teq rfl).1) (by decide) (by decide) k)
    show own_Go p e below PO (T5.setTop (mkF m 84 #[.val (.int pA), .val (.int (0 : Int32)), .val (.ref b2), .val (.ref aS)] []))
    refine own_back ?_ (fun t k => XS.aloadN X5.here hx rfl (hb hby at_84) rfl rfl k)
    show own_Go p e below PO (T5.setTop (mkF m 85 #[.val (.int pA), .val (.int (0 : Int32)), .val (.ref b2), .val (.ref aS)] [(.ref aS)]))
    obtain ⟨cq8, kq8, q8a, q8b, q8c⟩ := isOf hZ rfl ES
    obtain ⟨_, _, ⟨T8, L8, k8, n8⟩, -, X8, ⟨Lc8, hQ8, l8, y8, z8⟩, st8⟩ := X5.virtualBack hx (y := (⟨"java/lang/String", "length", "()I"⟩ : MethodName)) (z := (⟨"java/lang/String", "length", "()I"⟩ : MethodName)) hown (mvT hZ (hw _ (List.mem_of_getElem? (i := 29) rfl))) (mvT hZ (hw _ (List.mem_of_getElem? (i := 30) rfl))) (notFace_of_selects (args := #[]) (mvT hZ (hw _ (List.mem_of_getElem? (i := 32) rfl)))) (mvT hZ (hw _ (List.mem_of_getElem? (i := 32) rfl))) (mvT hZ (hw _ (List.mem_of_getElem? (i := 31) rfl))) (by decide) (backOf (W := 0) (rmLen_0 l Z a0 hw [] aS aB kB zC T5.heap n0 Zh5 ES FC FV VB (own_sta_keep S_C K5 all0) nzC) hZ (hw _ (List.mem_of_getElem? (i := 33) rfl)) (hw _ (List.mem_of_getElem? (i := 22) rfl)) (by decide) (by decide)) q8a q8c (g := (mkF m 85 #[.val (.int pA), .val (.int (0 : Int32)), .val (.ref b2), .val (.ref aS)] [(.ref aS)])) rfl (by rw [hml]; rfl) (Steps.refl _) (argsL := []) (rest := []) (lenOf pd_8 rfl) rfl (by show 2 * 0 + _ ≤ _; exact Nat.le_of_eq rfl) (hb hby at_85) (fun _ _ => ⟨rfl, rfl, (by decide : 3 + 0 ≤ _), (by decide : 25 + 0 ≤ _)⟩)
    dsimp only [Pt.U, Pt.locs, Pt.cells, Pt.slots] at X8 l8 y8 z8 st8 hQ8
    subst l8 y8 z8
    obtain ⟨rfl, N8q, e8⟩ := hQ8
    have N8 := Fr.app N5 N8q
    refine own_back ?_ (fun t k => st8.trans k)
    show own_Go p e below PO (T8.setTop (mkF m 88 #[.val (.int pA), .val (.int (0 : Int32)), .val (.ref b2), .val (.ref aS)] [(.int (5 : Int32))]))
    refine own_back ?_ (fun t k => XS.iconst X8.here hx rfl (hb hby at_88) k)
    show own_Go p e below PO (T8.setTop (mkF m 89 #[.val (.int pA), .val (.int (0 : Int32)), .val (.ref b2), .val (.ref aS)] [(.int (5 : Int32)), (.int (5 : Int32))]))
    refine own_back ?_ (fun t k => XS.icmpNo X8.here hx rfl (hb hby at_89) rfl (teq rfl).2 k)
    show own_Go p e below PO (T8.setTop (mkF m 92 #[.val (.int pA), .val (.int (0 : Int32)), .val (.ref b2), .val (.ref aS)] []))
    refine own_back ?_ (fun t k => XS.aloadN X8.here hx rfl (hb hby at_92) rfl rfl k)
    show own_Go p e below PO (T8.setTop (mkF m 93 #[.val (.int pA), .val (.int (0 : Int32)), .val (.ref b2), .val (.ref aS)] [(.ref aS)]))
    refine own_back ?_ (fun t k => XS.iconst X8.here hx rfl (hb hby at_93) k)
    show own_Go p e below PO (T8.setTop (mkF m 94 #[.val (.int pA), .val (.int (0 : Int32)), .val (.ref b2), .val (.ref aS)] [(.int (0 : Int32)), (.ref aS)]))
    obtain ⟨cq9, kq9, q9a, q9b, q9c⟩ := isOf hZ e8 ES
    obtain ⟨_, _, ⟨T9, L9, k9, n9⟩, -, X9, ⟨Lc9, hQ9, l9, y9, z9⟩, st9⟩ := X8.virtualBack hx (y := (⟨"java/lang/String", "charAt", "(I)C"⟩ : MethodName)) (z := (⟨"java/lang/String", "charAt", "(I)C"⟩ : MethodName)) hown (mvT hZ (hw _ (List.mem_of_getElem? (i := 42) rfl))) (mvT hZ (hw _ (List.mem_of_getElem? (i := 43) rfl))) (notFace_of_selects (args := #[]) (mvT hZ (hw _ (List.mem_of_getElem? (i := 45) rfl)))) (mvT hZ (hw _ (List.mem_of_getElem? (i := 45) rfl))) (mvT hZ (hw _ (List.mem_of_getElem? (i := 44) rfl))) (by decide) (backOf (W := 0) (rmCh_0_0 l Z a0 hw [] aS aB kB zC vF T5.heap n0 Zh5 ES FC FV VB (own_sta_keep S_C K5 all0) nzC (own_sta_keep S_F K5 all0) hF) hZ (hw _ (List.mem_of_getElem? (i := 46) rfl)) (hw _ (List.mem_of_getElem? (i := 22) rfl)) (by decide) (by decide)) q9a q9c (g := (mkF m 94 #[.val (.int pA), .val (.int (0 : Int32)), .val (.ref b2), .val (.ref aS)] [(.int (0 : Int32)), (.ref aS)])) rfl (by rw [hml]; rfl) (Steps.refl _) (argsL := [(.int (0 : Int32))]) (rest := []) (lenOf pd_9 rfl) rfl (by show 2 * 0 + _ ≤ _; exact Nat.le_of_eq rfl) (hb hby at_94) (fun _ _ => ⟨rfl, e8, (by decide : 3 + 0 ≤ _), (by decide : 25 + 0 ≤ _)⟩)
    dsimp only [Pt.U, Pt.locs, Pt.cells, Pt.slots] at X9 l9 y9 z9 st9 hQ9
    subst l9 y9 z9
    obtain ⟨rfl, N9q, e9⟩ := hQ9
    have N9 := Fr.app N8 N9q
    refine own_back ?_ (fun t k => st9.trans k)
    show own_Go p e below PO (T9.setTop (mkF m 97 #[.val (.int pA), .val (.int (0 : Int32)), .val (.ref b2), .val (.ref aS)] [(.int (70 : Int32))]))
    refine own_back ?_ (fun t k => XS.bipush X9.here hx rfl (hb hby at_97) k)
    show own_Go p e below PO (T9.setTop (mkF m 99 #[.val (.int pA), .val (.int (0 : Int32)), .val (.ref b2), .val (.ref aS)] [(.int (70 : Int32)), (.int (70 : Int32))]))
    refine own_back ?_ (fun t k => XS.icmpNo X9.here hx rfl (hb hby at_99) rfl (teq rfl).2 k)
    show own_Go p e below PO (T9.setTop (mkF m 102 #[.val (.int pA), .val (.int (0 : Int32)), .val (.ref b2), .val (.ref aS)] []))
    refine own_back ?_ (fun t k => XS.aloadN X9.here hx rfl (hb hby at_102) rfl rfl k)
    show own_Go p e below PO (T9.setTop (mkF m 103 #[.val (.int pA), .val (.int (0 : Int32)), .val (.ref b2), .val (.ref aS)] [(.ref aS)]))
    refine own_back ?_ (fun t k => XS.iconst X9.here hx rfl (hb hby at_103) k)
    show own_Go p e below PO (T9.setTop (mkF m 104 #[.val (.int pA), .val (.int (0 : Int32)), .val (.ref b2), .val (.ref aS)] [(.int (1 : Int32)), (.ref aS)]))
    obtain ⟨cq10, kq10, q10a, q10b, q10c⟩ := isOf hZ e9 ES
    obtain ⟨_, _, ⟨T10, L10, k10, n10⟩, -, X10, ⟨Lc10, hQ10, l10, y10, z10⟩, st10⟩ := X9.virtualBack hx (y := (⟨"java/lang/String", "charAt", "(I)C"⟩ : MethodName)) (z := (⟨"java/lang/String", "charAt", "(I)C"⟩ : MethodName)) hown (mvT hZ (hw _ (List.mem_of_getElem? (i := 42) rfl))) (mvT hZ (hw _ (List.mem_of_getElem? (i := 43) rfl))) (notFace_of_selects (args := #[]) (mvT hZ (hw _ (List.mem_of_getElem? (i := 45) rfl)))) (mvT hZ (hw _ (List.mem_of_getElem? (i := 45) rfl))) (mvT hZ (hw _ (List.mem_of_getElem? (i := 44) rfl))) (by decide) (backOf (W := 0) (rmCh_0_1 l Z a0 hw [] aS aB kB zC vF T5.heap n0 Zh5 ES FC FV VB (own_sta_keep S_C K5 all0) nzC (own_sta_keep S_F K5 all0) hF) hZ (hw _ (List.mem_of_getElem? (i := 46) rfl)) (hw _ (List.mem_of_getElem? (i := 22) rfl)) (by decide) (by decide)) q10a q10c (g := (mkF m 104 #[.val (.int pA), .val (.int (0 : Int32)), .val (.ref b2), .val (.ref aS)] [(.int (1 : Int32)), (.ref aS)])) rfl (by rw [hml]; rfl) (Steps.refl _) (argsL := [(.int (1 : Int32))]) (rest := []) (lenOf pd_9 rfl) rfl (by show 2 * 0 + _ ≤ _; exact Nat.le_of_eq rfl) (hb hby at_104) (fun _ _ => ⟨rfl, e9, (by decide : 3 + 0 ≤ _), (by decide : 25 + 0 ≤ _)⟩)
    dsimp only [Pt.U, Pt.locs, Pt.cells, Pt.slots] at X10 l10 y10 z10 st10 hQ10
    subst l10 y10 z10
    obtain ⟨rfl, N10q, e10⟩ := hQ10
    have N10 := Fr.app N9 N10q
    refine own_back ?_ (fun t k => st10.trans k)
    show own_Go p e below PO (T10.setTop (mkF m 107 #[.val (.int pA), .val (.int (0 : Int32)), .val (.ref b2), .val (.ref aS)] [(.int (65 : Int32))]))
    refine own_back ?_ (fun t k => XS.bipush X10.here hx rfl (hb hby at_107) k)
    show own_Go p e below PO (T10.setTop (mkF m 109 #[.val (.int pA), .val (.int (0 : Int32)), .val (.ref b2), .val (.ref aS)] [(.int (65 : Int32)), (.int (65 : Int32))]))
    refine own_back ?_ (fun t k => XS.icmpNo X10.here hx rfl (hb hby at_109) rfl (teq rfl).2 k)
    show own_Go p e below PO (T10.setTop (mkF m 112 #[.val (.int pA), .val (.int (0 : Int32)), .val (.ref b2), .val (.ref aS)] []))
    refine own_back ?_ (fun t k => XS.aloadN X10.here hx rfl (hb hby at_112) rfl rfl k)
    show own_Go p e below PO (T10.setTop (mkF m 113 #[.val (.int pA), .val (.int (0 : Int32)), .val (.ref b2), .val (.ref aS)] [(.ref aS)]))
    refine own_back ?_ (fun t k => XS.iconst X10.here hx rfl (hb hby at_113) k)
    show own_Go p e below PO (T10.setTop (mkF m 114 #[.val (.int pA), .val (.int (0 : Int32)), .val (.ref b2), .val (.ref aS)] [(.int (2 : Int32)), (.ref aS)]))
    obtain ⟨cq11, kq11, q11a, q11b, q11c⟩ := isOf hZ e10 ES
    obtain ⟨_, _, ⟨T11, L11, k11, n11⟩, -, X11, ⟨Lc11, hQ11, l11, y11, z11⟩, st11⟩ := X10.virtualBack hx (y := (⟨"java/lang/String", "charAt", "(I)C"⟩ : MethodName)) (z := (⟨"java/lang/String", "charAt", "(I)C"⟩ : MethodName)) hown (mvT hZ (hw _ (List.mem_of_getElem? (i := 42) rfl))) (mvT hZ (hw _ (List.mem_of_getElem? (i := 43) rfl))) (notFace_of_selects (args := #[]) (mvT hZ (hw _ (List.mem_of_getElem? (i := 45) rfl)))) (mvT hZ (hw _ (List.mem_of_getElem? (i := 45) rfl))) (mvT hZ (hw _ (List.mem_of_getElem? (i := 44) rfl))) (by decide) (backOf (W := 0) (rmCh_0_2 l Z a0 hw [] aS aB kB zC vF T5.heap n0 Zh5 ES FC FV VB (own_sta_keep S_C K5 all0) nzC (own_sta_keep S_F K5 all0) hF) hZ (hw _ (List.mem_of_getElem? (i := 46) rfl)) (hw _ (List.mem_of_getElem? (i := 22) rfl)) (by decide) (by decide)) q11a q11c (g := (mkF m 114 #[.val (.int pA), .val (.int (0 : Int32)), .val (.ref b2), .val (.ref aS)] [(.int (2 : Int32)), (.ref aS)])) rfl (by rw [hml]; rfl) (Steps.refl _) (argsL := [(.int (2 : Int32))]) (rest := []) (lenOf pd_9 rfl) rfl (by show 2 * 0 + _ ≤ _; exact Nat.le_of_eq rfl) (hb hby at_114) (fun _ _ => ⟨rfl, e10, (by decide : 3 + 0 ≤ _), (by decide : 25 + 0 ≤ _)⟩)
    dsimp only [Pt.U, Pt.locs, Pt.cells, Pt.slots] at X11 l11 y11 z11 st11 hQ11
    subst l11 y11 z11
    obtain ⟨rfl, N11q, e11⟩ := hQ11
    have N11 := Fr.app N10 N11q
    refine own_back ?_ (fun t k => st11.trans k)
    show own_Go p e below PO (T11.setTop (mkF m 117 #[.val (.int pA), .val (.int (0 : Int32)), .val (.ref b2), .val (.ref aS)] [(.int (76 : Int32))]))
    refine own_back ?_ (fun t k => XS.bipush X11.here hx rfl (hb hby at_117) k)
    show own_Go p e below PO (T11.setTop (mkF m 119 #[.val (.int pA), .val (.int (0 : Int32)), .val (.ref b2), .val (.ref aS)] [(.int (76 : Int32)), (.int (76 : Int32))]))
    refine own_back ?_ (fun t k => XS.icmpNo X11.here hx rfl (hb hby at_119) rfl (teq rfl).2 k)
    show own_Go p e below PO (T11.setTop (mkF m 122 #[.val (.int pA), .val (.int (0 : Int32)), .val (.ref b2), .val (.ref aS)] []))
    refine own_back ?_ (fun t k => XS.aloadN X11.here hx rfl (hb hby at_122) rfl rfl k)
    show own_Go p e below PO (T11.setTop (mkF m 123 #[.val (.int pA), .val (.int (0 : Int32)), .val (.ref b2), .val (.ref aS)] [(.ref aS)]))
    refine own_back ?_ (fun t k => XS.iconst X11.here hx rfl (hb hby at_123) k)
    show own_Go p e below PO (T11.setTop (mkF m 124 #[.val (.int pA), .val (.int (0 : Int32)), .val (.ref b2), .val (.ref aS)] [(.int (3 : Int32)), (.ref aS)]))
    obtain ⟨cq12, kq12, q12a, q12b, q12c⟩ := isOf hZ e11 ES
    obtain ⟨_, _, ⟨T12, L12, k12, n12⟩, -, X12, ⟨Lc12, hQ12, l12, y12, z12⟩, st12⟩ := X11.virtualBack hx (y := (⟨"java/lang/String", "charAt", "(I)C"⟩ : MethodName)) (z := (⟨"java/lang/String", "charAt", "(I)C"⟩ : MethodName)) hown (mvT hZ (hw _ (List.mem_of_getElem? (i := 42) rfl))) (mvT hZ (hw _ (List.mem_of_getElem? (i := 43) rfl))) (notFace_of_selects (args := #[]) (mvT hZ (hw _ (List.mem_of_getElem? (i := 45) rfl)))) (mvT hZ (hw _ (List.mem_of_getElem? (i := 45) rfl))) (mvT hZ (hw _ (List.mem_of_getElem? (i := 44) rfl))) (by decide) (backOf (W := 0) (rmCh_0_3 l Z a0 hw [] aS aB kB zC vF T5.heap n0 Zh5 ES FC FV VB (own_sta_keep S_C K5 all0) nzC (own_sta_keep S_F K5 all0) hF) hZ (hw _ (List.mem_of_getElem? (i := 46) rfl)) (hw _ (List.mem_of_getElem? (i := 22) rfl)) (by decide) (by decide)) q12a q12c (g := (mkF m 124 #[.val (.int pA), .val (.int (0 : Int32)), .val (.ref b2), .val (.ref aS)] [(.int (3 : Int32)), (.ref aS)])) rfl (by rw [hml]; rfl) (Steps.refl _) (argsL := [(.int (3 : Int32))]) (rest := []) (lenOf pd_9 rfl) rfl (by show 2 * 0 + _ ≤ _; exact Nat.le_of_eq rfl) (hb hby at_124) (fun _ _ => ⟨rfl, e11, (by decide : 3 + 0 ≤ _), (by decide : 25 + 0 ≤ _)⟩)
    dsimp only [Pt.U, Pt.locs, Pt.cells, Pt.slots] at X12 l12 y12 z12 st12 hQ12
    subst l12 y12 z12
    obtain ⟨rfl, N12q, e12⟩ := hQ12
    have N12 := Fr.app N11 N12q
    refine own_back ?_ (fun t k => st12.trans k)
    show own_Go p e below PO (T12.setTop (mkF m 127 #[.val (.int pA), .val (.int (0 : Int32)), .val (.ref b2), .val (.ref aS)] [(.int (83 : Int32))]))
    refine own_back ?_ (fun t k => XS.bipush X12.here hx rfl (hb hby at_127) k)
    show own_Go p e below PO (T12.setTop (mkF m 129 #[.val (.int pA), .val (.int (0 : Int32)), .val (.ref b2), .val (.ref aS)] [(.int (83 : Int32)), (.int (83 : Int32))]))
    refine own_back ?_ (fun t k => XS.icmpNo X12.here hx rfl (hb hby at_129) rfl (teq rfl).2 k)
    show own_Go p e below PO (T12.setTop (mkF m 132 #[.val (.int pA), .val (.int (0 : Int32)), .val (.ref b2), .val (.ref aS)] []))
    refine own_back ?_ (fun t k => XS.aloadN X12.here hx rfl (hb hby at_132) rfl rfl k)
    show own_Go p e below PO (T12.setTop (mkF m 133 #[.val (.int pA), .val (.int (0 : Int32)), .val (.ref b2), .val (.ref aS)] [(.ref aS)]))
    refine own_back ?_ (fun t k => XS.iconst X12.here hx rfl (hb hby at_133) k)
    show own_Go p e below PO (T12.setTop (mkF m 134 #[.val (.int pA), .val (.int (0 : Int32)), .val (.ref b2), .val (.ref aS)] [(.int (4 : Int32)), (.ref aS)]))
    obtain ⟨cq13, kq13, q13a, q13b, q13c⟩ := isOf hZ e12 ES
    obtain ⟨_, _, ⟨T13, L13, k13, n13⟩, -, X13, ⟨Lc13, hQ13, l13, y13, z13⟩, st13⟩ := X12.virtualBack hx (y := (⟨"java/lang/String", "charAt", "(I)C"⟩ : MethodName)) (z := (⟨"java/lang/String", "charAt", "(I)C"⟩ : MethodName)) hown (mvT hZ (hw _ (List.mem_of_getElem? (i := 42) rfl))) (mvT hZ (hw _ (List.mem_of_getElem? (i := 43) rfl))) (notFace_of_selects (args := #[]) (mvT hZ (hw _ (List.mem_of_getElem? (i := 45) rfl)))) (mvT hZ (hw _ (List.mem_of_getElem? (i := 45) rfl))) (mvT hZ (hw _ (List.mem_of_getElem? (i := 44) rfl))) (by decide) (backOf (W := 0) (rmCh_0_4 l Z a0 hw [] aS aB kB zC vF T5.heap n0 Zh5 ES FC FV VB (own_sta_keep S_C K5 all0) nzC (own_sta_keep S_F K5 all0) hF) hZ (hw _ (List.mem_of_getElem? (i := 46) rfl)) (hw _ (List.mem_of_getElem? (i := 22) rfl)) (by decide) (by decide)) q13a q13c (g := (mkF m 134 #[.val (.int pA), .val (.int (0 : Int32)), .val (.ref b2), .val (.ref aS)] [(.int (4 : Int32)), (.ref aS)])) rfl (by rw [hml]; rfl) (Steps.refl _) (argsL := [(.int (4 : Int32))]) (rest := []) (lenOf pd_9 rfl) rfl (by show 2 * 0 + _ ≤ _; exact Nat.le_of_eq rfl) (hb hby at_134) (fun _ _ => ⟨rfl, e12, (by decide : 3 + 0 ≤ _), (by decide : 25 + 0 ≤ _)⟩)
    dsimp only [Pt.U, Pt.locs, Pt.cells, Pt.slots] at X13 l13 y13 z13 st13 hQ13
    subst l13 y13 z13
    obtain ⟨rfl, N13q, e13⟩ := hQ13
    have N13 := Fr.app N12 N13q
    refine own_back ?_ (fun t k => st13.trans k)
    show own_Go p e below PO (T13.setTop (mkF m 137 #[.val (.int pA), .val (.int (0 : Int32)), .val (.ref b2), .val (.ref aS)] [(.int (69 : Int32))]))
    refine own_back ?_ (fun t k => XS.bipush X13.here hx rfl (hb hby at_137) k)
    show own_Go p e below PO (T13.setTop (mkF m 139 #[.val (.int pA), .val (.int (0 : Int32)), .val (.ref b2), .val (.ref aS)] [(.int (69 : Int32)), (.int (69 : Int32))]))
    refine own_back ?_ (fun t k => XS.icmpNo X13.here hx rfl (hb hby at_139) rfl (teq rfl).2 k)
    show own_Go p e below PO (T13.setTop (mkF m 142 #[.val (.int pA), .val (.int (0 : Int32)), .val (.ref b2), .val (.ref aS)] []))
    refine own_back ?_ (fun t k => XS.iconst X13.here hx rfl (hb hby at_142) k)
    show own_Go p e below PO (T13.setTop (mkF m 143 #[.val (.int pA), .val (.int (0 : Int32)), .val (.ref b2), .val (.ref aS)] [(.int (1 : Int32))]))
    refine own_back ?_ (fun t k => XS.goto X13.here hx rfl (pc0 := 143) (pc' := 147) rfl (hb hby at_143) (by decide) (by decide) k)
    show own_Go p e below PO (T13.setTop (mkF m 147 #[.val (.int pA), .val (.int (0 : Int32)), .val (.ref b2), .val (.ref aS)] [(.int (1 : Int32))]))
    refine own_retNW X13 hx (t := .boolean) (rest := []) Bd.returns (by decide) (by simp) (hb hby at_147) e13 (Bd.notSynchronized) ?_ (by decide) (by decide) (s := s) (vm0 := T5.vm) hS5 (Nat.le_refl _)
    exact ⟨rfl, N13⟩
  refine own_back ?_ (fun t k => XS.ifNo X0.here hx rfl (hb hby at_3) rfl ((if0 _ _).trans (feq hc3_1).1) k)
  show own_Go p e below PO (s₁.setTop (mkF m 6 #[.val (.int pA), .unset, .unset, .unset] []))
  refine own_back ?_ (fun t k => XS.iconst X0.here hx rfl (hb hby at_6) k)
  show own_Go p e below PO (s₁.setTop (mkF m 7 #[.val (.int pA), .unset, .unset, .unset] [(.int (1 : Int32))]))
  refine own_back ?_ (fun t k => XS.goto X0.here hx rfl (pc0 := 7) (pc' := 11) rfl (hb hby at_7) (by decide) (by decide) k)
  show own_Go p e below PO (s₁.setTop (mkF m 11 #[.val (.int pA), .unset, .unset, .unset] [(.int (1 : Int32))]))
  refine own_back ?_ (fun t k => XS.istoreN X0.here hx rfl (hb hby at_11) rfl (l' := #[.val (.int pA), .val (.int (1 : Int32)), .unset, .unset]) rfl k)
  show own_Go p e below PO (s₁.setTop (mkF m 12 #[.val (.int pA), .val (.int (1 : Int32)), .unset, .unset] []))
  obtain ⟨T14, h14, X14, e14, E14, A14, D14, -, st14⟩ := newO X0 hx hZ hown (hw _ (List.mem_of_getElem? (i := 0) rfl)) (hw _ (List.mem_of_getElem? (i := 1) rfl)) (hw _ (List.mem_of_getElem? (i := 2) rfl)) e0 (g := (mkF m 12 #[.val (.int pA), .val (.int (1 : Int32)), .unset, .unset] [])) rfl (hb hby at_12) (by decide) (by decide)
  obtain ⟨b14, g14⟩ : ∃ z, z = h0.size := ⟨_, rfl⟩
  rw [← g14] at A14 D14 st14
  have sz_b14 : h0.size ≤ b14 := Nat.le_of_eq g14.symm
  have gn_b14 : n0 ≤ b14 := Nat.le_trans Z0 sz_b14
  have K14 : Keep h0 h14 [] := (Keep.refl h0 []).ext E14
  have Zh14 : n0 ≤ h14.size := Nat.le_trans Z0 K14.1
  have F14_value : Fld Z h14 b14 "com/example/juncture/juncture/eval/BooleanValue" "value" "Z" (.int (0 : Int32)) := D14 (Or.inr (hw _ (List.mem_of_getElem? (i := 15) rfl))) (ty := .boolean) (by decide)
  refine own_back ?_ st14
  show own_Go p e below PO (T14.setTop (mkF m 15 #[.val (.int pA), .val (.int (1 : Int32)), .unset, .unset] [(.ref b14)]))
  refine own_back ?_ (fun t k => XS.dup X14.here hx rfl (hb hby at_15) rfl rfl k)
  show own_Go p e below PO (T14.setTop (mkF m 16 #[.val (.int pA), .val (.int (1 : Int32)), .unset, .unset] [(.ref b14), (.ref b14)]))
  refine own_back ?_ (fun t k => XS.iloadN X14.here hx rfl (hb hby at_16) rfl k)
  show own_Go p e below PO (T14.setTop (mkF m 17 #[.val (.int pA), .val (.int (1 : Int32)), .unset, .unset] [(.int (1 : Int32)), (.ref b14), (.ref b14)]))
  obtain ⟨_, _, ⟨T15, L15, k15, n15⟩, -, X15, ⟨Lc15, hQ15, l15, y15, z15⟩, st15⟩ := X14.specialBack hx (y := (⟨"com/example/juncture/juncture/eval/BooleanValue", "<init>", "(Z)V"⟩ : MethodName)) rfl hown (mvT hZ (hw _ (List.mem_of_getElem? (i := 3) rfl))) (mvT hZ (hw _ (List.mem_of_getElem? (i := 4) rfl))) (mvT hZ (hw _ (List.mem_of_getElem? (i := 5) rfl))) (by decide) (backOf (W := 1) (rmIni_1 l Z a0 hw [] b14  h14 n0 Zh14 A14 F14_value gn_b14) hZ (hw _ (List.mem_of_getElem? (i := 5) rfl)) (hw _ (List.mem_of_getElem? (i := 2) rfl)) (by decide) (by decide)) (g := (mkF m 17 #[.val (.int pA), .val (.int (1 : Int32)), .unset, .unset] [(.int (1 : Int32)), (.ref b14), (.ref b14)])) rfl (by rw [hml]; rfl) (Steps.refl _) (a := b14) (argsL := [(.int (1 : Int32))]) (rest := [(.ref b14)]) (lenOf pd_6 rfl) rfl (by show 2 * 0 + _ ≤ _; exact Nat.le_of_eq rfl) (hb hby at_17) (fun _ _ => ⟨rfl, e14, (by decide : 1 + 0 ≤ _), (by decide : 1 + 0 ≤ _)⟩)
  dsimp only [Pt.U, Pt.locs, Pt.cells, Pt.slots] at X15 l15 y15 z15 st15 hQ15
  subst l15 y15 z15
  obtain ⟨rfl, N15q, Kc15, FV15⟩ := hQ15
  have N15 := Fr.app N0 N15q
  have f15_16 := A14.keep Kc15
  have K15 : Keep h0 T15.heap [] := (K14).trans Kc15 (allS (Or.inr sz_b14) all0)
  have Zh15 : n0 ≤ T15.heap.size := Nat.le_trans Z0 K15.1
  refine own_back ?_ (fun t k => st15.trans k)
  show own_Go p e below PO (T15.setTop (mkF m 20 #[.val (.int pA), .val (.int (1 : Int32)), .unset, .unset] [(.ref b14)]))
  refine own_back ?_ (fun t k => XS.astoreN X15.here hx rfl (hb hby at_20) rfl rfl (l' := #[.val (.int pA), .val (.int (1 : Int32)), .val (.ref b14), .unset]) rfl k)
  show own_Go p e below PO (T15.setTop (mkF m 21 #[.val (.int pA), .val (.int (1 : Int32)), .val (.ref b14), .unset] []))
  refine own_back ?_ (fun t k => XS.aloadN X15.here hx rfl (hb hby at_21) rfl rfl k)
  show own_Go p e below PO (T15.setTop (mkF m 22 #[.val (.int pA), .val (.int (1 : Int32)), .val (.ref b14), .unset] [(.ref b14)]))
  obtain ⟨cq17, kq17, q17a, q17b, q17c⟩ := isOf hZ rfl f15_16
  obtain ⟨_, _, ⟨T17, L17, k17, n17⟩, -, X17, hSn17, hgr17, ⟨Lc17, hQ17, l17, y17, z17, -⟩, st17⟩ := X15.virtualBackS hx (y := (⟨"com/example/juncture/juncture/eval/BooleanValue", "toString", "()Ljava/lang/String;"⟩ : MethodName)) (z := (⟨"com/example/juncture/juncture/eval/BooleanValue", "toString", "()Ljava/lang/String;"⟩ : MethodName)) hown (mvT hZ (hw _ (List.mem_of_getElem? (i := 16) rfl))) (mvT hZ (hw _ (List.mem_of_getElem? (i := 17) rfl))) (notFace_of_selects (args := #[]) (mvT hZ (hw _ (List.mem_of_getElem? (i := 19) rfl)))) (mvT hZ (hw _ (List.mem_of_getElem? (i := 19) rfl))) (mvT hZ (hw _ (List.mem_of_getElem? (i := 18) rfl))) (by decide) (backOfSH (s := s) (vm0 := s.vm) (W := 0) (rmTS_1 l Z a0 hw [] b14  T15.heap n0 Zh15 f15_16 FV15) hZ (hw _ (List.mem_of_getElem? (i := 20) rfl)) (hw _ (List.mem_of_getElem? (i := 2) rfl)) (by decide) (by decide) (own_EW hw) (CHv.keep K15 all0 hCH)) q17a q17c (g := (mkF m 22 #[.val (.int pA), .val (.int (1 : Int32)), .val (.ref b14), .unset] [(.ref b14)])) rfl (by rw [hml]; rfl) (Steps.refl _) (argsL := []) (rest := []) (lenOf pd_7 rfl) rfl (by show 2 * 0 + _ ≤ _; exact Nat.le_of_eq rfl) (hb hby at_22) (fun _ _ => ⟨rfl, rfl, (by decide : 1 + 2 ≤ _), (by decide : 1 + 20 ≤ _)⟩)
  dsimp only [Pt.U, Pt.locs, Pt.cells, Pt.slots] at X17 l17 y17 z17 st17 hQ17
  subst l17 y17 z17
  replace X17 : Stand p l e room_1 (s.setVm T17.vm) m #[(.int pA)] below meth c T17 _ _ _ := X17
  have hS17 : s.Since T17.vm T17.heap.size := foldS (s := s) (vm0 := s.vm) (T := T15) hS0 (Nat.zero_le _) hSn17 hgr17
  have hZ : Z.Warmed39 (s.setVm T17.vm).vm := State.Warmed39.trans (t := s.setVm s.vm) hZ hSn17.1
  have hown : (s.setVm T17.vm).vm.findClass "com/example/juncture/juncture/eval/BooleanValueToStringPinLaw" = some m.cls := by rw [show (s.setVm T17.vm).vm = T17.vm from rfl, hSn17.1.alike.findClass]; exact hown
  obtain ⟨aS, aB, kB, rfl, N17q, Kc17, ES, FC, FV, VB⟩ := hQ17
  have N17 := Fr.app N15 N17q
  have f17_18 := f15_16.keep Kc17
  have f17_19 := FV15.keep Kc17 nin0
  have K17 : Keep h0 T17.heap [] := (K15).trans Kc17 all0
  have Zh17 : n0 ≤ T17.heap.size := Nat.le_trans Z0 K17.1
  refine own_back ?_ (fun t k => st17.trans k)
  show own_Go p e below PO (T17.setTop (mkF m 25 #[.val (.int pA), .val (.int (1 : Int32)), .val (.ref b14), .unset] [(.ref aS)]))
  refine own_back ?_ (fun t k => XS.astoreN X17.here hx rfl (hb hby at_25) rfl rfl (l' := #[.val (.int pA), .val (.int (1 : Int32)), .val (.ref b14), .val (.ref aS)]) rfl k)
  show own_Go p e below PO (T17.setTop (mkF m 26 #[.val (.int pA), .val (.int (1 : Int32)), .val (.ref b14), .val (.ref aS)] []))
  refine own_back ?_ (fun t k => XS.iloadN X17.here hx rfl (hb hby at_26) rfl k)
  show own_Go p e below PO (T17.setTop (mkF m 27 #[.val (.int pA), .val (.int (1 : Int32)), .val (.ref b14), .val (.ref aS)] [(.int (1 : Int32))]))
  have hd27_20 : ¬ ((1 : Int32) = (0 : Int32)) := (by decide)
  refine own_back ?_ (fun t k => XS.ifNo X17.here hx rfl (hb hby at_27) rfl ((if0 _ _).trans (feq hd27_20).1) k)
  show own_Go p e below PO (T17.setTop (mkF m 30 #[.val (.int pA), .val (.int (1 : Int32)), .val (.ref b14), .val (.ref aS)] []))
  refine own_back ?_ (fun t k => XS.aloadN X17.here hx rfl (hb hby at_30) rfl rfl k)
  show own_Go p e below PO (T17.setTop (mkF m 31 #[.val (.int pA), .val (.int (1 : Int32)), .val (.ref b14), .val (.ref aS)] [(.ref aS)]))
  obtain ⟨cq21, kq21, q21a, q21b, q21c⟩ := isOf hZ rfl ES
  obtain ⟨_, _, ⟨T21, L21, k21, n21⟩, -, X21, ⟨Lc21, hQ21, l21, y21, z21⟩, st21⟩ := X17.virtualBack hx (y := (⟨"java/lang/String", "length", "()I"⟩ : MethodName)) (z := (⟨"java/lang/String", "length", "()I"⟩ : MethodName)) hown (mvT hZ (hw _ (List.mem_of_getElem? (i := 29) rfl))) (mvT hZ (hw _ (List.mem_of_getElem? (i := 30) rfl))) (notFace_of_selects (args := #[]) (mvT hZ (hw _ (List.mem_of_getElem? (i := 32) rfl)))) (mvT hZ (hw _ (List.mem_of_getElem? (i := 32) rfl))) (mvT hZ (hw _ (List.mem_of_getElem? (i := 31) rfl))) (by decide) (backOf (W := 0) (rmLen_1 l Z a0 hw [] aS aB kB zC T17.heap n0 Zh17 ES FC FV VB (own_sta_keep S_C K17 all0) nzC) hZ (hw _ (List.mem_of_getElem? (i := 33) rfl)) (hw _ (List.mem_of_getElem? (i := 22) rfl)) (by decide) (by decide)) q21a q21c (g := (mkF m 31 #[.val (.int pA), .val (.int (1 : Int32)), .val (.ref b14), .val (.ref aS)] [(.ref aS)])) rfl (by rw [hml]; rfl) (Steps.refl _) (argsL := []) (rest := []) (lenOf pd_8 rfl) rfl (by show 2 * 0 + _ ≤ _; exact Nat.le_of_eq rfl) (hb hby at_31) (fun _ _ => ⟨rfl, rfl, (by decide : 3 + 0 ≤ _), (by decide : 21 + 0 ≤ _)⟩)
  dsimp only [Pt.U, Pt.locs, Pt.cells, Pt.slots] at X21 l21 y21 z21 st21 hQ21
  subst l21 y21 z21
  obtain ⟨rfl, N21q, e21⟩ := hQ21
  have N21 := Fr.app N17 N21q
  refine own_back ?_ (fun t k => st21.trans k)
  show own_Go p e below PO (T21.setTop (mkF m 34 #[.val (.int pA), .val (.int (1 : Int32)), .val (.ref b14), .val (.ref aS)] [(.int (4 : Int32))]))
  refine own_back ?_ (fun t k => XS.iconst X21.here hx rfl (hb hby at_34) k)
  show own_Go p e below PO (T21.setTop (mkF m 35 #[.val (.int pA), .val (.int (1 : Int32)), .val (.ref b14), .val (.ref aS)] [(.int (4 : Int32)), (.int (4 : Int32))]))
  refine own_back ?_ (fun t k => XS.icmpNo X21.here hx rfl (hb hby at_35) rfl (teq rfl).2 k)
  show own_Go p e below PO (T21.setTop (mkF m 38 #[.val (.int pA), .val (.int (1 : Int32)), .val (.ref b14), .val (.ref aS)] []))
  refine own_back ?_ (fun t k => XS.aloadN X21.here hx rfl (hb hby at_38) rfl rfl k)
  show own_Go p e below PO (T21.setTop (mkF m 39 #[.val (.int pA), .val (.int (1 : Int32)), .val (.ref b14), .val (.ref aS)] [(.ref aS)]))
  refine own_back ?_ (fun t k => XS.iconst X21.here hx rfl (hb hby at_39) k)
  show own_Go p e below PO (T21.setTop (mkF m 40 #[.val (.int pA), .val (.int (1 : Int32)), .val (.ref b14), .val (.ref aS)] [(.int (0 : Int32)), (.ref aS)]))
  obtain ⟨cq22, kq22, q22a, q22b, q22c⟩ := isOf hZ e21 ES
  obtain ⟨_, _, ⟨T22, L22, k22, n22⟩, -, X22, ⟨Lc22, hQ22, l22, y22, z22⟩, st22⟩ := X21.virtualBack hx (y := (⟨"java/lang/String", "charAt", "(I)C"⟩ : MethodName)) (z := (⟨"java/lang/String", "charAt", "(I)C"⟩ : MethodName)) hown (mvT hZ (hw _ (List.mem_of_getElem? (i := 42) rfl))) (mvT hZ (hw _ (List.mem_of_getElem? (i := 43) rfl))) (notFace_of_selects (args := #[]) (mvT hZ (hw _ (List.mem_of_getElem? (i := 45) rfl)))) (mvT hZ (hw _ (List.mem_of_getElem? (i := 45) rfl))) (mvT hZ (hw _ (List.mem_of_getElem? (i := 44) rfl))) (by decide) (backOf (W := 0) (rmCh_1_0 l Z a0 hw [] aS aB kB zC vF T17.heap n0 Zh17 ES FC FV VB (own_sta_keep S_C K17 all0) nzC (own_sta_keep S_F K17 all0) hF) hZ (hw _ (List.mem_of_getElem? (i := 46) rfl)) (hw _ (List.mem_of_getElem? (i := 22) rfl)) (by decide) (by decide)) q22a q22c (g := (mkF m 40 #[.val (.int pA), .val (.int (1 : Int32)), .val (.ref b14), .val (.ref aS)] [(.int (0 : Int32)), (.ref aS)])) rfl (by rw [hml]; rfl) (Steps.refl _) (argsL := [(.int (0 : Int32))]) (rest := []) (lenOf pd_9 rfl) rfl (by show 2 * 0 + _ ≤ _; exact Nat.le_of_eq rfl) (hb hby at_40) (fun _ _ => ⟨rfl, e21, (by decide : 3 + 0 ≤ _), (by decide : 21 + 0 ≤ _)⟩)
  dsimp only [Pt.U, Pt.locs, Pt.cells, Pt.slots] at X22 l22 y22 z22 st22 hQ22
  subst l22 y22 z22
  obtain ⟨rfl, N22q, e22⟩ := hQ22
  have N22 := Fr.app N21 N22q
  refine own_back ?_ (fun t k => st22.trans k)
  show own_Go p e below PO (T22.setTop (mkF m 43 #[.val (.int pA), .val (.int (1 : Int32)), .val (.ref b14), .val (.ref aS)] [(.int (84 : Int32))]))
  refine own_back ?_ (fun t k => XS.bipush X22.here hx rfl (hb hby at_43) k)
  show own_Go p e below PO (T22.setTop (mkF m 45 #[.val (.int pA), .val (.int (1 : Int32)), .val (.ref b14), .val (.ref aS)] [(.int (84 : Int32)), (.int (84 : Int32))]))
  refine own_back ?_ (fun t k => XS.icmpNo X22.here hx rfl (hb hby at_45) rfl (teq rfl).2 k)
  show own_Go p e below PO (T22.setTop (mkF m 48 #[.val (.int pA), .val (.int (1 : Int32)), .val (.ref b14), .val (.ref aS)] []))
  refine own_back ?_ (fun t k => XS.aloadN X22.here hx rfl (hb hby at_48) rfl rfl k)
  show own_Go p e below PO (T22.setTop (mkF m 49 #[.val (.int pA), .val (.int (1 : Int32)), .val (.ref b14), .val (.ref aS)] [(.ref aS)]))
  refine own_back ?_ (fun t k => XS.iconst X22.here hx rfl (hb hby at_49) k)
  show own_Go p e below PO (T22.setTop (mkF m 50 #[.val (.int pA), .val (.int (1 : Int32)), .val (.ref b14), .val (.ref aS)] [(.int (1 : Int32)), (.ref aS)]))
  obtain ⟨cq23, kq23, q23a, q23b, q23c⟩ := isOf hZ e22 ES
  obtain ⟨_, _, ⟨T23, L23, k23, n23⟩, -, X23, ⟨Lc23, hQ23, l23, y23, z23⟩, st23⟩ := X22.virtualBack hx (y := (⟨"java/lang/String", "charAt", "(I)C"⟩ : MethodName)) (z := (⟨"java/lang/String", "charAt", "(I)C"⟩ : MethodName)) hown (mvT hZ (hw _ (List.mem_of_getElem? (i := 42) rfl))) (mvT hZ (hw _ (List.mem_of_getElem? (i := 43) rfl))) (notFace_of_selects (args := #[]) (mvT hZ (hw _ (List.mem_of_getElem? (i := 45) rfl)))) (mvT hZ (hw _ (List.mem_of_getElem? (i := 45) rfl))) (mvT hZ (hw _ (List.mem_of_getElem? (i := 44) rfl))) (by decide) (backOf (W := 0) (rmCh_1_1 l Z a0 hw [] aS aB kB zC vF T17.heap n0 Zh17 ES FC FV VB (own_sta_keep S_C K17 all0) nzC (own_sta_keep S_F K17 all0) hF) hZ (hw _ (List.mem_of_getElem? (i := 46) rfl)) (hw _ (List.mem_of_getElem? (i := 22) rfl)) (by decide) (by decide)) q23a q23c (g := (mkF m 50 #[.val (.int pA), .val (.int (1 : Int32)), .val (.ref b14), .val (.ref aS)] [(.int (1 : Int32)), (.ref aS)])) rfl (by rw [hml]; rfl) (Steps.refl _) (argsL := [(.int (1 : Int32))]) (rest := []) (lenOf pd_9 rfl) rfl (by show 2 * 0 + _ ≤ _; exact Nat.le_of_eq rfl) (hb hby at_50) (fun _ _ => ⟨rfl, e22, (by decide : 3 + 0 ≤ _), (by decide : 21 + 0 ≤ _)⟩)
  dsimp only [Pt.U, Pt.locs, Pt.cells, Pt.slots] at X23 l23 y23 z23 st23 hQ23
  subst l23 y23 z23
  obtain ⟨rfl, N23q, e23⟩ := hQ23
  have N23 := Fr.app N22 N23q
  refine own_back ?_ (fun t k => st23.trans k)
  show own_Go p e below PO (T23.setTop (mkF m 53 #[.val (.int pA), .val (.int (1 : Int32)), .val (.ref b14), .val (.ref aS)] [(.int (82 : Int32))]))
  refine own_back ?_ (fun t k => XS.bipush X23.here hx rfl (hb hby at_53) k)
  show own_Go p e below PO (T23.setTop (mkF m 55 #[.val (.int pA), .val (.int (1 : Int32)), .val (.ref b14), .val (.ref aS)] [(.int (82 : Int32)), (.int (82 : Int32))]))
  refine own_back ?_ (fun t k => XS.icmpNo X23.here hx rfl (hb hby at_55) rfl (teq rfl).2 k)
  show own_Go p e below PO (T23.setTop (mkF m 58 #[.val (.int pA), .val (.int (1 : Int32)), .val (.ref b14), .val (.ref aS)] []))
  refine own_back ?_ (fun t k => XS.aloadN X23.here hx rfl (hb hby at_58) rfl rfl k)
  show own_Go p e below PO (T23.setTop (mkF m 59 #[.val (.int pA), .val (.int (1 : Int32)), .val (.ref b14), .val (.ref aS)] [(.ref aS)]))
  refine own_back ?_ (fun t k => XS.iconst X23.here hx rfl (hb hby at_59) k)
  show own_Go p e below PO (T23.setTop (mkF m 60 #[.val (.int pA), .val (.int (1 : Int32)), .val (.ref b14), .val (.ref aS)] [(.int (2 : Int32)), (.ref aS)]))
  obtain ⟨cq24, kq24, q24a, q24b, q24c⟩ := isOf hZ e23 ES
  obtain ⟨_, _, ⟨T24, L24, k24, n24⟩, -, X24, ⟨Lc24, hQ24, l24, y24, z24⟩, st24⟩ := X23.virtualBack hx (y := (⟨"java/lang/String", "charAt", "(I)C"⟩ : MethodName)) (z := (⟨"java/lang/String", "charAt", "(I)C"⟩ : MethodName)) hown (mvT hZ (hw _ (List.mem_of_getElem? (i := 42) rfl))) (mvT hZ (hw _ (List.mem_of_getElem? (i := 43) rfl))) (notFace_of_selects (args := #[]) (mvT hZ (hw _ (List.mem_of_getElem? (i := 45) rfl)))) (mvT hZ (hw _ (List.mem_of_getElem? (i := 45) rfl))) (mvT hZ (hw _ (List.mem_of_getElem? (i := 44) rfl))) (by decide) (backOf (W := 0) (rmCh_1_2 l Z a0 hw [] aS aB kB zC vF T17.heap n0 Zh17 ES FC FV VB (own_sta_keep S_C K17 all0) nzC (own_sta_keep S_F K17 all0) hF) hZ (hw _ (List.mem_of_getElem? (i := 46) rfl)) (hw _ (List.mem_of_getElem? (i := 22) rfl)) (by decide) (by decide)) q24a q24c (g := (mkF m 60 #[.val (.int pA), .val (.int (1 : Int32)), .val (.ref b14), .val (.ref aS)] [(.int (2 : Int32)), (.ref aS)])) rfl (by rw [hml]; rfl) (Steps.refl _) (argsL := [(.int (2 : Int32))]) (rest := []) (lenOf pd_9 rfl) rfl (by show 2 * 0 + _ ≤ _; exact Nat.le_of_eq rfl) (hb hby at_60) (fun _ _ => ⟨rfl, e23, (by decide : 3 + 0 ≤ _), (by decide : 21 + 0 ≤ _)⟩)
  dsimp only [Pt.U, Pt.locs, Pt.cells, Pt.slots] at X24 l24 y24 z24 st24 hQ24
  subst l24 y24 z24
  obtain ⟨rfl, N24q, e24⟩ := hQ24
  have N24 := Fr.app N23 N24q
  refine own_back ?_ (fun t k => st24.trans k)
  show own_Go p e below PO (T24.setTop (mkF m 63 #[.val (.int pA), .val (.int (1 : Int32)), .val (.ref b14), .val (.ref aS)] [(.int (85 : Int32))]))
  refine own_back ?_ (fun t k => XS.bipush X24.here hx rfl (hb hby at_63) k)
  show own_Go p e below PO (T24.setTop (mkF m 65 #[.val (.int pA), .val (.int (1 : Int32)), .val (.ref b14), .val (.ref aS)] [(.int (85 : Int32)), (.int (85 : Int32))]))
  refine own_back ?_ (fun t k => XS.icmpNo X24.here hx rfl (hb hby at_65) rfl (teq rfl).2 k)
  show own_Go p e below PO (T24.setTop (mkF m 68 #[.val (.int pA), .val (.int (1 : Int32)), .val (.ref b14), .val (.ref aS)] []))
  refine own_back ?_ (fun t k => XS.aloadN X24.here hx rfl (hb hby at_68) rfl rfl k)
  show own_Go p e below PO (T24.setTop (mkF m 69 #[.val (.int pA), .val (.int (1 : Int32)), .val (.ref b14), .val (.ref aS)] [(.ref aS)]))
  refine own_back ?_ (fun t k => XS.iconst X24.here hx rfl (hb hby at_69) k)
  show own_Go p e below PO (T24.setTop (mkF m 70 #[.val (.int pA), .val (.int (1 : Int32)), .val (.ref b14), .val (.ref aS)] [(.int (3 : Int32)), (.ref aS)]))
  obtain ⟨cq25, kq25, q25a, q25b, q25c⟩ := isOf hZ e24 ES
  obtain ⟨_, _, ⟨T25, L25, k25, n25⟩, -, X25, ⟨Lc25, hQ25, l25, y25, z25⟩, st25⟩ := X24.virtualBack hx (y := (⟨"java/lang/String", "charAt", "(I)C"⟩ : MethodName)) (z := (⟨"java/lang/String", "charAt", "(I)C"⟩ : MethodName)) hown (mvT hZ (hw _ (List.mem_of_getElem? (i := 42) rfl))) (mvT hZ (hw _ (List.mem_of_getElem? (i := 43) rfl))) (notFace_of_selects (args := #[]) (mvT hZ (hw _ (List.mem_of_getElem? (i := 45) rfl)))) (mvT hZ (hw _ (List.mem_of_getElem? (i := 45) rfl))) (mvT hZ (hw _ (List.mem_of_getElem? (i := 44) rfl))) (by decide) (backOf (W := 0) (rmCh_1_3 l Z a0 hw [] aS aB kB zC vF T17.heap n0 Zh17 ES FC FV VB (own_sta_keep S_C K17 all0) nzC (own_sta_keep S_F K17 all0) hF) hZ (hw _ (List.mem_of_getElem? (i := 46) rfl)) (hw _ (List.mem_of_getElem? (i := 22) rfl)) (by decide) (by decide)) q25a q25c (g := (mkF m 70 #[.val (.int pA), .val (.int (1 : Int32)), .val (.ref b14), .val (.ref aS)] [(.int (3 : Int32)), (.ref aS)])) rfl (by rw [hml]; rfl) (Steps.refl _) (argsL := [(.int (3 : Int32))]) (rest := []) (lenOf pd_9 rfl) rfl (by show 2 * 0 + _ ≤ _; exact Nat.le_of_eq rfl) (hb hby at_70) (fun _ _ => ⟨rfl, e24, (by decide : 3 + 0 ≤ _), (by decide : 21 + 0 ≤ _)⟩)
  dsimp only [Pt.U, Pt.locs, Pt.cells, Pt.slots] at X25 l25 y25 z25 st25 hQ25
  subst l25 y25 z25
  obtain ⟨rfl, N25q, e25⟩ := hQ25
  have N25 := Fr.app N24 N25q
  refine own_back ?_ (fun t k => st25.trans k)
  show own_Go p e below PO (T25.setTop (mkF m 73 #[.val (.int pA), .val (.int (1 : Int32)), .val (.ref b14), .val (.ref aS)] [(.int (69 : Int32))]))
  refine own_back ?_ (fun t k => XS.bipush X25.here hx rfl (hb hby at_73) k)
  show own_Go p e below PO (T25.setTop (mkF m 75 #[.val (.int pA), .val (.int (1 : Int32)), .val (.ref b14), .val (.ref aS)] [(.int (69 : Int32)), (.int (69 : Int32))]))
  refine own_back ?_ (fun t k => XS.icmpNo X25.here hx rfl (hb hby at_75) rfl (teq rfl).2 k)
  show own_Go p e below PO (T25.setTop (mkF m 78 #[.val (.int pA), .val (.int (1 : Int32)), .val (.ref b14), .val (.ref aS)] []))
  refine own_back ?_ (fun t k => XS.iconst X25.here hx rfl (hb hby at_78) k)
  show own_Go p e below PO (T25.setTop (mkF m 79 #[.val (.int pA), .val (.int (1 : Int32)), .val (.ref b14), .val (.ref aS)] [(.int (1 : Int32))]))
  refine own_back ?_ (fun t k => XS.goto X25.here hx rfl (pc0 := 79) (pc' := 83) rfl (hb hby at_79) (by decide) (by decide) k)
  show own_Go p e below PO (T25.setTop (mkF m 83 #[.val (.int pA), .val (.int (1 : Int32)), .val (.ref b14), .val (.ref aS)] [(.int (1 : Int32))]))
  refine own_retNW X25 hx (t := .boolean) (rest := []) Bd.returns (by decide) (by simp) (hb hby at_83) e25 (Bd.notSynchronized) ?_ (by decide) (by decide) (s := s) (vm0 := T17.vm) hS17 (Nat.le_refl _)
  exact ⟨rfl, N25⟩
set_option maxRecDepth 65536 in
set_option maxHeartbeats 40000000 in
theorem comes_1 {Post : Tables → Env → Array Value → State → Outcome → State → Prop} (hpost : ∀ tb e args s v u, (limb_1_1.after args s (.returned v) u = true ∧ limb_1_2.after args s (.returned v) u = true ∧ True) → ReturnedEndW s (.returned v) u (Jvm.fieldLocs frame_1_writes args s ++ Jvm.arrayLocs frame_1_arrays args s ++ Jvm.staticLocs frame_1_statics s) 16 2176 → Post tb e args s (.returned v) u) :
    ArmFor flags0 classFile x code maxLocals ret World_1 tables_1 room_1 Calls_1 rest_1 Pre_1 Post := by
  intro l hfl _ _ p e ha hc hk s m args below hf hA hF happ hP
  obtain ⟨hcalls, hrest, hpre⟩ := hP
  obtain ⟨-, -, -, hnamed, -, -, -, hat⟩ := (Spec.applies_iff hf).mp happ
  obtain ⟨hg, hn⟩ := and_e (Cond.before_iff.mp (show (Jvm.Cond.and given_1 narrow_1).before args s = true from hpre))
  obtain ⟨gc, g0⟩ := and_e hg
  obtain ⟨w0, rfl⟩ : ∃ w0 : Value, args = #[w0] := by
    have hs : args.size = 1 := by simpa [Cond.value, given_1] using gc
    obtain ⟨L⟩ := args
    match L, hs with
    | [w0], _ => exact ⟨w0, rfl⟩
  have hw := fun d (hd : d ∈ tables_1) => atoms_spec (ws := Jvm.Cond.code x code maxLocals ret :: tables_1) hat d (List.mem_cons_of_mem _ hd)
  obtain ⟨i0, ei0⟩ := is_v g0
  obtain rfl : w0 = (.int i0) := Option.some.inj ei0
  obtain ⟨hsets, hown0⟩ := atoms_of _ (rest_1_c_eq ▸ (show rest_1_c.before _ s = true from hrest))
  obtain ⟨zC, eC⟩ := is_v (Cond.before_iff.mp (hsets _ (List.mem_of_getElem? (i := 1) rfl)))
  have S_C : Sta s s.heap "java/lang/String" "COMPACT_STRINGS" "Z" (.int zC) := Sta.start eC (Or.inl (hsets _ (List.mem_of_getElem? (i := 0) rfl)))
  have n5 := not_v (Cond.before_iff.mp (hsets _ (List.mem_of_getElem? (i := 2) rfl)))
  have nzC : ¬ (zC = (0 : Int32)) := gotF (Cond.eq_ints eC (Term.int_eval (0))) n5
  obtain ⟨vF, eF, hF⟩ := isR_v (Cond.before_iff.mp (hsets _ (List.mem_of_getElem? (i := 8) rfl)))
  have S_F : Sta s s.heap "jdk/internal/util/Preconditions" "SIOOBE_FORMATTER" "Ljava/util/function/BiFunction;" vF := Sta.start eF (Or.inl (hsets _ (List.mem_of_getElem? (i := 7) rfl)))
  have hCH : CHv s consts_1 s.vm s.heap := CHv.start (own_EW hw) hcalls.1 (hsets _ (List.mem_of_getElem? (i := 2) rfl)) (hw _ (List.mem_of_getElem? (i := 24) rfl)) (hw _ (List.mem_of_getElem? (i := 23) rfl))
  obtain ⟨n, o, h1, h2, h3, _, L, rfl, ⟨rfl, N⟩, hq⟩ := rm0 l s _ hw tables_1 i0 zC vF s.heap s.heap.size (Nat.le_refl _) S_C nzC S_F hF p e ha hc hk s m _ below hf ((Spec.applies_iff_loose hf).mp happ).1 ⟨rfl, State.Warmed39.refl s, rfl, hCH⟩ trivial
  refine ⟨n, _, h1, h2, h3, hpost _ _ _ _ _ _ ⟨Cond.after_iff.mpr rfl, Cond.after_iff.mpr (eq_i res_at (Term.int_eval (1)) rfl), trivial⟩ ⟨hq.1, hq.2.1, hq.2.2.1, (hq.2.2.2.sift fun y hy => Or.inr (N y hy)).mono (by decide) (by decide)⟩⟩
theorem main_1_1 : Claimed_1_1 := comes_1 fun _ _ _ _ _ _ h hF => ⟨h.1, hF⟩
theorem main_1_2 : Claimed_1_2 := comes_1 fun _ _ _ _ _ _ h hF => ⟨h.2.1, hF⟩
end Jvm.Pilot.@@N@@
namespace Jvm.Pilot.@@N@@
open Jvm Jvm.ClassFile Sem Op Lib Jvm.Free Jvm.Stand Jvm.Pilot.@@N@@.Jvm.D
/-! MADE BY PROGRAM (witnessworld.py) out of the Statement's table words and the real class files: 19 classes; the members and pool entries that the words name. The judged class is class 1, her method 1. -/
namespace start1
open Jvm.ClassFile
def u (s : String) : CpInfo := .utf8 (stringToUtf16 s)
/-- a pool by its gaps: so many unusable entries, then the entry; so many at the end -/
def gap : Nat → List CpInfo → List CpInfo
  | 0, r => r
  | n + 1, r => .unusable :: gap n r
def poolList (es : List (Nat × CpInfo)) (last : Nat) : List CpInfo := es.foldr (fun e r => gap e.1 (e.2 :: r)) (gap last [])
def pool (es : List (Nat × CpInfo)) (last : Nat) : Array CpInfo := ⟨poolList es last⟩
def fileOf (pool : Array CpInfo) (this : Nat) (attrs : Array Attribute := #[]) (ms : Array MethodInfo := #[]) (fl : Nat := 33) (sup : Nat := 0) (ifs : Array Nat := #[]) (fds : Array FieldInfo := #[]) : ClassFile where
  minorVersion := 0
  majorVersion := 65
  constantPool := pool
  accessFlags := fl
  thisClass := this
  superClass := sup
  interfaces := ifs
  fields := fds
  methods := ms
  attributes := attrs
def plain (name : String) (sup : Option ClassId) : Class where
  name := name
  kind := .ordinary
  loader := none
  accessFlags := 33
  super := sup
  interfaces := #[]
  cf := none
  fields := #[]
  methods := #[]
  instanceTypes := #[]
  staticTypes := #[]
  resolved := #[]
  callSites := []
  init := .initialized
  statics := none
  mirror := none

def pool0 : Array CpInfo := pool [(5, u "<init>"), (0, u "()V"), (1, .class_ 10), (1, u "java/lang/Object")] 113

def k0c0 : Code := { maxStack := 0, maxLocals := 1, code := object_method_1_code, exceptionTable := #[], attributes := #[] }
def k0m0 : Method := { name := "<init>", desc := "()V", sig := { parameters := [], returnType := none }, accessFlags := 1, code := some k0c0 }
/-- java/lang/Object -/
def k0 : Class := { plain "java/lang/Object" none with
  accessFlags := 33
  interfaces := #[]
  cf := some (fileOf pool0 8 #[] #[{ accessFlags := 1, nameIndex := 5, descriptorIndex := 6, attributes := #[] }] 33 0 #[] #[])
  fields := #[]
  methods := #[k0m0]
  instanceTypes := #[]
  staticTypes := #[]
  resolved := Array.replicate 124 none
  statics := none }

def pool1 : Array CpInfo := pool [(2, .class_ 4), (1, u "java/lang/Object"), (0, u "<init>"), (0, u "()V"), (0, .class_ 8), (0, u "com/example/juncture/juncture/eval/BooleanValue"), (0, .methodref 7 10), (0, .nameAndType 5 11), (0, u "(Z)V"), (0, .methodref 7 13), (0, .nameAndType 14 15), (0, u "toString"), (0, u "()Ljava/lang/String;"), (0, .methodref 17 18), (0, .class_ 19), (0, .nameAndType 20 21), (0, u "java/lang/String"), (0, u "length"), (0, u "()I"), (0, .methodref 17 23), (0, .nameAndType 24 25), (0, u "charAt"), (0, u "(I)C"), (0, .class_ 27), (0, u "com/example/juncture/juncture/eval/BooleanValueToStringPinLaw"), (2, u "law"), (0, u "(I)Z")] 3

def k1m0 : Method := { name := "<init>", desc := "()V", sig := { parameters := [], returnType := none }, accessFlags := 2, code := none }
def k1c1 : Code := { maxStack := 3, maxLocals := 4, code := code, exceptionTable := #[], attributes := #[] }
def k1m1 : Method := { name := "law", desc := "(I)Z", sig := { parameters := [.int], returnType := some .boolean }, accessFlags := 9, code := some k1c1 }
/-- com/example/juncture/juncture/eval/BooleanValueToStringPinLaw -/
def k1 : Class := { plain "com/example/juncture/juncture/eval/BooleanValueToStringPinLaw" (some 0) with
  accessFlags := 49
  interfaces := #[]
  cf := some (fileOf pool1 26 #[] #[{ accessFlags := 2, nameIndex := 5, descriptorIndex := 6, attributes := #[] }, { accessFlags := 9, nameIndex := 30, descriptorIndex := 31, attributes := #[] }] 49 2 #[] #[])
  fields := #[]
  methods := #[k1m0, k1m1]
  instanceTypes := #[]
  staticTypes := #[]
  resolved := Array.replicate 35 none
  statics := none }

def pool2 : Array CpInfo := pool [(1, .methodref 2 3), (0, .class_ 4), (0, .nameAndType 5 6), (0, u "java/lang/Object"), (0, u "<init>"), (0, u "()V"), (0, .class_ 8), (0, u "java/lang/Record")] 13

def k2c0 : Code := { maxStack := 1, maxLocals := 1, code := jdk_30_method_1_code, exceptionTable := #[], attributes := #[] }
def k2m0 : Method := { name := "<init>", desc := "()V", sig := { parameters := [], returnType := none }, accessFlags := 4, code := some k2c0 }
/-- java/lang/Record -/
def k2 : Class := { plain "java/lang/Record" (some 0) with
  accessFlags := 1057
  interfaces := #[]
  cf := some (fileOf pool2 7 #[] #[{ accessFlags := 4, nameIndex := 5, descriptorIndex := 6, attributes := #[] }] 1057 2 #[] #[])
  fields := #[]
  methods := #[k2m0]
  instanceTypes := #[]
  staticTypes := #[]
  resolved := Array.replicate 22 none
  statics := none }

def pool3 : Array CpInfo := pool [(1, .class_ 2), (0, u "java/lang/Comparable"), (0, .class_ 4), (0, u "java/lang/Object")] 7

/-- java/lang/Comparable -/
def k3 : Class := { plain "java/lang/Comparable" (some 0) with
  accessFlags := 1537
  interfaces := #[]
  cf := some (fileOf pool3 1 #[] #[] 1537 3 #[] #[])
  fields := #[]
  methods := #[]
  instanceTypes := #[]
  staticTypes := #[]
  resolved := Array.replicate 12 none
  statics := none }

def pool4 : Array CpInfo := pool [(1, .class_ 2), (0, u "com/example/juncture/juncture/eval/Value"), (4, .class_ 8), (0, u "java/lang/Object"), (0, .class_ 10), (0, u "java/lang/Comparable"), (11, .class_ 23), (0, u "com/example/juncture/juncture/eval/Value$Kind")] 13

/-- com/example/juncture/juncture/eval/Value -/
def k4 : Class := { plain "com/example/juncture/juncture/eval/Value" (some 0) with
  accessFlags := 1537
  interfaces := #[3]
  cf := some (fileOf pool4 1 #[.nestMembers #[22]] #[] 1537 7 #[9] #[])
  fields := #[]
  methods := #[]
  instanceTypes := #[]
  staticTypes := #[]
  resolved := Array.replicate 37 none
  statics := none }

def pool5 : Array CpInfo := pool [(1, .methodref 2 3), (0, .class_ 4), (0, .nameAndType 5 6), (0, u "java/lang/Record"), (0, u "<init>"), (0, u "()V"), (0, .fieldref 8 9), (0, .class_ 10), (0, .nameAndType 11 12), (0, u "com/example/juncture/juncture/eval/BooleanValue"), (0, u "value"), (0, u "Z"), (2, u "TRUE"), (0, u "Lcom/example/juncture/juncture/eval/BooleanValue;"), (2, u "FALSE"), (12, .string 15), (0, .string 19), (0, .class_ 35), (0, u "com/example/juncture/juncture/eval/Value"), (14, u "(Z)V"), (8, u "toString"), (0, u "()Ljava/lang/String;")] 27

def k5c0 : Code := { maxStack := 2, maxLocals := 2, code := prog_11_method_1_code, exceptionTable := #[], attributes := #[] }
def k5m0 : Method := { name := "<init>", desc := "(Z)V", sig := { parameters := [.boolean], returnType := none }, accessFlags := 1, code := some k5c0 }
def k5c1 : Code := { maxStack := 1, maxLocals := 1, code := prog_11_method_5_code, exceptionTable := #[], attributes := #[] }
def k5m1 : Method := { name := "toString", desc := "()Ljava/lang/String;", sig := { parameters := [], returnType := some (.object "java/lang/String") }, accessFlags := 1, code := some k5c1 }
/-- com/example/juncture/juncture/eval/BooleanValue -/
def k5 : Class := { plain "com/example/juncture/juncture/eval/BooleanValue" (some 2) with
  accessFlags := 49
  interfaces := #[4]
  cf := some (fileOf pool5 8 #[] #[{ accessFlags := 1, nameIndex := 5, descriptorIndex := 50, attributes := #[] }, { accessFlags := 1, nameIndex := 59, descriptorIndex := 60, attributes := #[] }] 49 2 #[34] #[{ accessFlags := 18, nameIndex := 11, descriptorIndex := 12, attributes := #[] }, { accessFlags := 25, nameIndex := 15, descriptorIndex := 16, attributes := #[] }, { accessFlags := 25, nameIndex := 19, descriptorIndex := 16, attributes := #[] }])
  fields := #[{ name := "value", type := .boolean, accessFlags := 18, slot := 0, constantValue := 0 }, { name := "TRUE", type := (.object "com/example/juncture/juncture/eval/BooleanValue"), accessFlags := 25, slot := 0, constantValue := 0 }, { name := "FALSE", type := (.object "com/example/juncture/juncture/eval/BooleanValue"), accessFlags := 25, slot := 1, constantValue := 0 }]
  methods := #[k5m0, k5m1]
  instanceTypes := #[.boolean]
  staticTypes := #[(.object "com/example/juncture/juncture/eval/BooleanValue"), (.object "com/example/juncture/juncture/eval/BooleanValue")]
  resolved := Array.replicate 88 none
  statics := none }

def pool6 : Array CpInfo := pool [(1, .class_ 2), (0, u "java/io/Serializable"), (0, .class_ 4), (0, u "java/lang/Object")] 2

/-- java/io/Serializable -/
def k6 : Class := { plain "java/io/Serializable" (some 0) with
  accessFlags := 1537
  interfaces := #[]
  cf := some (fileOf pool6 1 #[] #[] 1537 3 #[] #[])
  fields := #[]
  methods := #[]
  instanceTypes := #[]
  staticTypes := #[]
  resolved := Array.replicate 7 none
  statics := none }

def pool7 : Array CpInfo := pool [(2, .class_ 4), (1, u "java/lang/CharSequence"), (42, .class_ 48), (0, u "java/lang/CharSequence$1CodePointIterator"), (10, .class_ 60), (0, u "java/lang/CharSequence$1CharIterator"), (5, .class_ 67), (0, u "java/lang/Object")] 63

/-- java/lang/CharSequence -/
def k7 : Class := { plain "java/lang/CharSequence" (some 0) with
  accessFlags := 1537
  interfaces := #[]
  cf := some (fileOf pool7 2 #[.nestMembers #[47, 59]] #[] 1537 66 #[] #[])
  fields := #[]
  methods := #[]
  instanceTypes := #[]
  staticTypes := #[]
  resolved := Array.replicate 131 none
  statics := none }

def pool8 : Array CpInfo := pool [(1, .class_ 2), (0, u "java/lang/constant/Constable"), (0, .class_ 4), (0, u "java/lang/Object")] 6

/-- java/lang/constant/Constable -/
def k8 : Class := { plain "java/lang/constant/Constable" (some 0) with
  accessFlags := 1537
  interfaces := #[]
  cf := some (fileOf pool8 1 #[] #[] 1537 3 #[] #[])
  fields := #[]
  methods := #[]
  instanceTypes := #[]
  staticTypes := #[]
  resolved := Array.replicate 11 none
  statics := none }

def pool9 : Array CpInfo := pool [(1, .class_ 2), (0, u "java/lang/constant/ConstantDesc"), (0, .class_ 4), (0, u "java/lang/Object")] 32

/-- java/lang/constant/ConstantDesc -/
def k9 : Class := { plain "java/lang/constant/ConstantDesc" (some 0) with
  accessFlags := 1537
  interfaces := #[]
  cf := some (fileOf pool9 1 #[] #[] 1537 3 #[] #[])
  fields := #[]
  methods := #[]
  instanceTypes := #[]
  staticTypes := #[]
  resolved := Array.replicate 37 none
  statics := none }

def pool10 : Array CpInfo := pool [(2, .class_ 4), (1, u "java/lang/Object"), (0, u "<init>"), (0, u "()V"), (2, .fieldref 10 11), (0, .class_ 12), (0, .nameAndType 13 14), (0, u "java/lang/String"), (0, u "value"), (0, u "[B"), (0, .fieldref 10 16), (0, .nameAndType 17 18), (0, u "coder"), (0, u "B"), (2, u "hash"), (0, u "I"), (2, u "hashIsZero"), (0, u "Z"), (11, .fieldref 10 39), (0, .nameAndType 40 26), (0, u "COMPACT_STRINGS"), (66, .class_ 109), (1, u "java/lang/StringLatin1"), (32, u "()Z"), (191, u "()I"), (0, .methodref 10 336), (0, .nameAndType 17 337), (0, u "()B"), (25, u "([BI)C"), (27, u "(II)V"), (35, u "(I)C"), (64, .methodref 10 493), (0, .nameAndType 494 142), (0, u "isLatin1"), (0, .methodref 107 496), (0, .nameAndType 497 363), (0, u "charAt"), (3, u "checkIndex"), (5, u "length"), (67, .class_ 576), (0, u "java/lang/CharSequence"), (22, u "CASE_INSENSITIVE_ORDER"), (0, u "Ljava/util/Comparator;"), (452, .fieldref 1054 1055), (0, .class_ 1056), (0, .nameAndType 1057 1058), (0, u "jdk/internal/util/Preconditions"), (0, u "SIOOBE_FORMATTER"), (0, u "Ljava/util/function/BiFunction;"), (0, .methodref 1054 1060), (0, .nameAndType 501 1061), (0, u "(IILjava/util/function/BiFunction;)I"), (39, u "serialPersistentFields"), (0, u "[Ljava/io/ObjectStreamField;"), (0, .class_ 1104), (0, u "java/lang/String$CaseInsensitiveComparator"), (1, .class_ 1107), (0, u "java/io/Serializable"), (0, .class_ 1109), (0, u "java/lang/Comparable"), (0, .class_ 1111), (0, u "java/lang/constant/Constable"), (0, .class_ 1113), (0, u "java/lang/constant/ConstantDesc"), (2, u "serialVersionUID"), (0, u "J"), (3, u "REPL"), (0, u "C"), (2, u "LATIN1"), (1, u "UTF16")] 323

def k10m0 : Method := { name := "<init>", desc := "()V", sig := { parameters := [], returnType := none }, accessFlags := 1, code := none }
def k10c1 : Code := { maxStack := 2, maxLocals := 1, code := jdk_42_method_54_code, exceptionTable := #[], attributes := #[] }
def k10m1 : Method := { name := "length", desc := "()I", sig := { parameters := [], returnType := some .int }, accessFlags := 1, code := some k10c1 }
def k10c2 : Code := { maxStack := 2, maxLocals := 2, code := jdk_42_method_56_code, exceptionTable := #[], attributes := #[] }
def k10m2 : Method := { name := "charAt", desc := "(I)C", sig := { parameters := [.int], returnType := some .char }, accessFlags := 1, code := some k10c2 }
def k10c3 : Code := { maxStack := 1, maxLocals := 1, code := jdk_42_method_152_code, exceptionTable := #[], attributes := #[] }
def k10m3 : Method := { name := "coder", desc := "()B", sig := { parameters := [], returnType := some .byte }, accessFlags := 0, code := some k10c3 }
def k10c4 : Code := { maxStack := 1, maxLocals := 1, code := jdk_42_method_154_code, exceptionTable := #[], attributes := #[] }
def k10m4 : Method := { name := "isLatin1", desc := "()Z", sig := { parameters := [], returnType := some .boolean }, accessFlags := 0, code := some k10c4 }
def k10c5 : Code := { maxStack := 3, maxLocals := 2, code := jdk_42_method_155_code, exceptionTable := #[], attributes := #[] }
def k10m5 : Method := { name := "checkIndex", desc := "(II)V", sig := { parameters := [.int, .int], returnType := none }, accessFlags := 8, code := some k10c5 }
/-- java/lang/String -/
def k10 : Class := { plain "java/lang/String" (some 0) with
  accessFlags := 49
  interfaces := #[6, 3, 7, 8, 9]
  cf := some (fileOf pool10 10 #[.nestMembers #[1103]] #[{ accessFlags := 1, nameIndex := 5, descriptorIndex := 6, attributes := #[] }, { accessFlags := 1, nameIndex := 507, descriptorIndex := 334, attributes := #[] }, { accessFlags := 1, nameIndex := 497, descriptorIndex := 427, attributes := #[] }, { accessFlags := 0, nameIndex := 17, descriptorIndex := 337, attributes := #[] }, { accessFlags := 0, nameIndex := 494, descriptorIndex := 142, attributes := #[] }, { accessFlags := 8, nameIndex := 501, descriptorIndex := 391, attributes := #[] }] 49 2 #[1106, 1108, 575, 1110, 1112] #[{ accessFlags := 18, nameIndex := 13, descriptorIndex := 14, attributes := #[] }, { accessFlags := 18, nameIndex := 17, descriptorIndex := 18, attributes := #[] }, { accessFlags := 2, nameIndex := 21, descriptorIndex := 22, attributes := #[] }, { accessFlags := 2, nameIndex := 25, descriptorIndex := 26, attributes := #[] }, { accessFlags := 26, nameIndex := 1116, descriptorIndex := 1117, attributes := #[] }, { accessFlags := 24, nameIndex := 40, descriptorIndex := 26, attributes := #[] }, { accessFlags := 26, nameIndex := 1101, descriptorIndex := 1102, attributes := #[] }, { accessFlags := 26, nameIndex := 1121, descriptorIndex := 1122, attributes := #[] }, { accessFlags := 25, nameIndex := 599, descriptorIndex := 600, attributes := #[] }, { accessFlags := 24, nameIndex := 1125, descriptorIndex := 18, attributes := #[] }, { accessFlags := 24, nameIndex := 1127, descriptorIndex := 18, attributes := #[] }])
  fields := #[{ name := "value", type := (.array .byte), accessFlags := 18, slot := 0, constantValue := 0 }, { name := "coder", type := .byte, accessFlags := 18, slot := 1, constantValue := 0 }, { name := "hash", type := .int, accessFlags := 2, slot := 2, constantValue := 0 }, { name := "hashIsZero", type := .boolean, accessFlags := 2, slot := 3, constantValue := 0 }, { name := "serialVersionUID", type := .long, accessFlags := 26, slot := 0, constantValue := 0 }, { name := "COMPACT_STRINGS", type := .boolean, accessFlags := 24, slot := 1, constantValue := 0 }, { name := "serialPersistentFields", type := (.array (.object "java/io/ObjectStreamField")), accessFlags := 26, slot := 2, constantValue := 0 }, { name := "REPL", type := .char, accessFlags := 26, slot := 3, constantValue := 0 }, { name := "CASE_INSENSITIVE_ORDER", type := (.object "java/util/Comparator"), accessFlags := 25, slot := 4, constantValue := 0 }, { name := "LATIN1", type := .byte, accessFlags := 24, slot := 5, constantValue := 0 }, { name := "UTF16", type := .byte, accessFlags := 24, slot := 6, constantValue := 0 }]
  methods := #[k10m0, k10m1, k10m2, k10m3, k10m4, k10m5]
  instanceTypes := #[(.array .byte), .byte, .int, .boolean]
  staticTypes := #[.long, .boolean, (.array (.object "java/io/ObjectStreamField")), .char, (.object "java/util/Comparator"), .byte, .byte]
  resolved := Array.replicate 1451 none
  statics := some 0 }

def pool11 : Array CpInfo := pool [(1, .class_ 2), (0, u "java/lang/String"), (1, .class_ 6), (1, u "java/lang/Object"), (0, u "<init>"), (0, u "()V"), (0, .methodref 1 10), (0, .nameAndType 11 12), (0, u "checkIndex"), (0, u "(II)V"), (1, .class_ 16), (1, u "java/lang/StringLatin1"), (36, u "([BI)C"), (67, u "$assertionsDisabled"), (0, u "Z"), (98, .class_ 223), (1, u "java/lang/StringLatin1$LinesSpliterator"), (28, u "charAt"), (137, .class_ 391), (0, u "java/lang/StringLatin1$CharsSpliterator")] 3

def k11m0 : Method := { name := "<init>", desc := "()V", sig := { parameters := [], returnType := none }, accessFlags := 0, code := none }
def k11c1 : Code := { maxStack := 2, maxLocals := 2, code := jdk_43_method_2_code, exceptionTable := #[], attributes := #[] }
def k11m1 : Method := { name := "charAt", desc := "([BI)C", sig := { parameters := [(.array .byte), .int], returnType := some .char }, accessFlags := 9, code := some k11c1 }
/-- java/lang/StringLatin1 -/
def k11 : Class := { plain "java/lang/StringLatin1" (some 0) with
  accessFlags := 48
  interfaces := #[]
  cf := some (fileOf pool11 14 #[.nestMembers #[390, 221]] #[{ accessFlags := 0, nameIndex := 7, descriptorIndex := 8, attributes := #[] }, { accessFlags := 9, nameIndex := 252, descriptorIndex := 53, attributes := #[] }] 48 4 #[] #[{ accessFlags := 4120, nameIndex := 121, descriptorIndex := 122, attributes := #[] }])
  fields := #[{ name := "$assertionsDisabled", type := .boolean, accessFlags := 4120, slot := 0, constantValue := 0 }]
  methods := #[k11m0, k11m1]
  instanceTypes := #[]
  staticTypes := #[.boolean]
  resolved := Array.replicate 395 none
  statics := none }

def pool12 : Array CpInfo := pool [(2, .class_ 4), (1, u "java/lang/Object"), (0, u "<init>"), (0, u "()V"), (17, .class_ 26), (1, u "jdk/internal/util/Preconditions"), (6, u "checkIndex"), (21, .class_ 56), (0, u "jdk/internal/util/Preconditions$4"), (57, .class_ 115), (0, u "jdk/internal/util/Preconditions$1"), (7, u "SIOOBE_FORMATTER"), (0, u "Ljava/util/function/BiFunction;"), (0, .class_ 126), (0, u "jdk/internal/util/Preconditions$2"), (3, u "AIOOBE_FORMATTER"), (0, .class_ 132), (0, u "jdk/internal/util/Preconditions$3"), (3, u "IOOBE_FORMATTER"), (41, u "(IILjava/util/function/BiFunction;)I")] 15

def k12m0 : Method := { name := "<init>", desc := "()V", sig := { parameters := [], returnType := none }, accessFlags := 1, code := none }
def k12c1 : Code := { maxStack := 3, maxLocals := 3, code := jdk_41_method_11_code, exceptionTable := #[], attributes := #[] }
def k12m1 : Method := { name := "checkIndex", desc := "(IILjava/util/function/BiFunction;)I", sig := { parameters := [.int, .int, (.object "java/util/function/BiFunction")], returnType := some .int }, accessFlags := 9, code := some k12c1 }
/-- jdk/internal/util/Preconditions -/
def k12 : Class := { plain "jdk/internal/util/Preconditions" (some 0) with
  accessFlags := 33
  interfaces := #[]
  cf := some (fileOf pool12 24 #[.nestMembers #[55, 131, 125, 114]] #[{ accessFlags := 1, nameIndex := 5, descriptorIndex := 6, attributes := #[] }, { accessFlags := 9, nameIndex := 33, descriptorIndex := 178, attributes := #[] }] 33 2 #[] #[{ accessFlags := 25, nameIndex := 123, descriptorIndex := 124, attributes := #[] }, { accessFlags := 25, nameIndex := 130, descriptorIndex := 124, attributes := #[] }, { accessFlags := 25, nameIndex := 136, descriptorIndex := 124, attributes := #[] }])
  fields := #[{ name := "SIOOBE_FORMATTER", type := (.object "java/util/function/BiFunction"), accessFlags := 25, slot := 0, constantValue := 0 }, { name := "AIOOBE_FORMATTER", type := (.object "java/util/function/BiFunction"), accessFlags := 25, slot := 1, constantValue := 0 }, { name := "IOOBE_FORMATTER", type := (.object "java/util/function/BiFunction"), accessFlags := 25, slot := 2, constantValue := 0 }]
  methods := #[k12m0, k12m1]
  instanceTypes := #[]
  staticTypes := #[(.object "java/util/function/BiFunction"), (.object "java/util/function/BiFunction"), (.object "java/util/function/BiFunction")]
  resolved := Array.replicate 194 none
  statics := some 1 }

def pool13 : Array CpInfo := pool [(9, u "<init>"), (6, .class_ 18), (1, u "java/lang/Object"), (0, u "()V"), (1, .class_ 23), (1, u "jdk/internal/util/ArraysSupport"), (0, u "LOG2_ARRAY_LONG_INDEX_SCALE"), (0, u "I"), (2, u "U"), (0, u "Ljdk/internal/misc/Unsafe;"), (8, u "BIG_ENDIAN"), (0, u "Z"), (8, u "LOG2_BYTE_BIT_SIZE"), (4, u "LOG2_ARRAY_INT_INDEX_SCALE"), (54, u "JLA"), (0, u "Ljdk/internal/access/JavaLangAccess;"), (11, u "LOG2_ARRAY_BOOLEAN_INDEX_SCALE"), (9, u "LOG2_ARRAY_BYTE_INDEX_SCALE"), (5, u "LOG2_ARRAY_CHAR_INDEX_SCALE"), (5, u "LOG2_ARRAY_SHORT_INDEX_SCALE"), (18, u "LOG2_ARRAY_FLOAT_INDEX_SCALE"), (24, u "LOG2_ARRAY_DOUBLE_INDEX_SCALE"), (89, u "T_BOOLEAN"), (2, u "T_CHAR"), (1, u "T_FLOAT"), (1, u "T_DOUBLE"), (1, u "T_BYTE"), (1, u "T_SHORT"), (1, u "T_INT"), (1, u "T_LONG"), (1, u "SOFT_MAX_ARRAY_LENGTH")] 83

def k13m0 : Method := { name := "<init>", desc := "()V", sig := { parameters := [], returnType := none }, accessFlags := 2, code := none }
/-- jdk/internal/util/ArraysSupport -/
def k13 : Class := { plain "jdk/internal/util/ArraysSupport" (some 0) with
  accessFlags := 33
  interfaces := #[]
  cf := some (fileOf pool13 21 #[] #[{ accessFlags := 2, nameIndex := 9, descriptorIndex := 19, attributes := #[] }] 33 16 #[] #[{ accessFlags := 24, nameIndex := 28, descriptorIndex := 29, attributes := #[] }, { accessFlags := 26, nameIndex := 38, descriptorIndex := 39, attributes := #[] }, { accessFlags := 25, nameIndex := 121, descriptorIndex := 25, attributes := #[] }, { accessFlags := 25, nameIndex := 131, descriptorIndex := 25, attributes := #[] }, { accessFlags := 25, nameIndex := 137, descriptorIndex := 25, attributes := #[] }, { accessFlags := 25, nameIndex := 143, descriptorIndex := 25, attributes := #[] }, { accessFlags := 25, nameIndex := 53, descriptorIndex := 25, attributes := #[] }, { accessFlags := 25, nameIndex := 24, descriptorIndex := 25, attributes := #[] }, { accessFlags := 25, nameIndex := 162, descriptorIndex := 25, attributes := #[] }, { accessFlags := 25, nameIndex := 187, descriptorIndex := 25, attributes := #[] }, { accessFlags := 26, nameIndex := 48, descriptorIndex := 25, attributes := #[] }, { accessFlags := 25, nameIndex := 277, descriptorIndex := 25, attributes := #[] }, { accessFlags := 25, nameIndex := 280, descriptorIndex := 25, attributes := #[] }, { accessFlags := 25, nameIndex := 282, descriptorIndex := 25, attributes := #[] }, { accessFlags := 25, nameIndex := 284, descriptorIndex := 25, attributes := #[] }, { accessFlags := 25, nameIndex := 286, descriptorIndex := 25, attributes := #[] }, { accessFlags := 25, nameIndex := 288, descriptorIndex := 25, attributes := #[] }, { accessFlags := 25, nameIndex := 290, descriptorIndex := 25, attributes := #[] }, { accessFlags := 25, nameIndex := 292, descriptorIndex := 25, attributes := #[] }, { accessFlags := 26, nameIndex := 108, descriptorIndex := 109, attributes := #[] }, { accessFlags := 25, nameIndex := 294, descriptorIndex := 25, attributes := #[] }])
  fields := #[{ name := "U", type := (.object "jdk/internal/misc/Unsafe"), accessFlags := 24, slot := 0, constantValue := 0 }, { name := "BIG_ENDIAN", type := .boolean, accessFlags := 26, slot := 1, constantValue := 0 }, { name := "LOG2_ARRAY_BOOLEAN_INDEX_SCALE", type := .int, accessFlags := 25, slot := 2, constantValue := 0 }, { name := "LOG2_ARRAY_BYTE_INDEX_SCALE", type := .int, accessFlags := 25, slot := 3, constantValue := 0 }, { name := "LOG2_ARRAY_CHAR_INDEX_SCALE", type := .int, accessFlags := 25, slot := 4, constantValue := 0 }, { name := "LOG2_ARRAY_SHORT_INDEX_SCALE", type := .int, accessFlags := 25, slot := 5, constantValue := 0 }, { name := "LOG2_ARRAY_INT_INDEX_SCALE", type := .int, accessFlags := 25, slot := 6, constantValue := 0 }, { name := "LOG2_ARRAY_LONG_INDEX_SCALE", type := .int, accessFlags := 25, slot := 7, constantValue := 0 }, { name := "LOG2_ARRAY_FLOAT_INDEX_SCALE", type := .int, accessFlags := 25, slot := 8, constantValue := 0 }, { name := "LOG2_ARRAY_DOUBLE_INDEX_SCALE", type := .int, accessFlags := 25, slot := 9, constantValue := 0 }, { name := "LOG2_BYTE_BIT_SIZE", type := .int, accessFlags := 26, slot := 10, constantValue := 0 }, { name := "T_BOOLEAN", type := .int, accessFlags := 25, slot := 11, constantValue := 0 }, { name := "T_CHAR", type := .int, accessFlags := 25, slot := 12, constantValue := 0 }, { name := "T_FLOAT", type := .int, accessFlags := 25, slot := 13, constantValue := 0 }, { name := "T_DOUBLE", type := .int, accessFlags := 25, slot := 14, constantValue := 0 }, { name := "T_BYTE", type := .int, accessFlags := 25, slot := 15, constantValue := 0 }, { name := "T_SHORT", type := .int, accessFlags := 25, slot := 16, constantValue := 0 }, { name := "T_INT", type := .int, accessFlags := 25, slot := 17, constantValue := 0 }, { name := "T_LONG", type := .int, accessFlags := 25, slot := 18, constantValue := 0 }, { name := "JLA", type := (.object "jdk/internal/access/JavaLangAccess"), accessFlags := 26, slot := 19, constantValue := 0 }, { name := "SOFT_MAX_ARRAY_LENGTH", type := .int, accessFlags := 25, slot := 20, constantValue := 0 }]
  methods := #[k13m0]
  instanceTypes := #[]
  staticTypes := #[(.object "jdk/internal/misc/Unsafe"), .boolean, .int, .int, .int, .int, .int, .int, .int, .int, .int, .int, .int, .int, .int, .int, .int, .int, .int, (.object "jdk/internal/access/JavaLangAccess"), .int]
  resolved := Array.replicate 378 none
  statics := none }

def pool14 : Array CpInfo := pool [(1, u "java/lang/Cloneable"), (0, .class_ 1), (0, u "java/lang/Object"), (0, .class_ 3)] 3

/-- java/lang/Cloneable -/
def k14 : Class := { plain "java/lang/Cloneable" (some 0) with
  accessFlags := 1537
  interfaces := #[]
  cf := some (fileOf pool14 2 #[] #[] 1537 4 #[] #[])
  fields := #[]
  methods := #[]
  instanceTypes := #[]
  staticTypes := #[]
  resolved := Array.replicate 8 none
  statics := none }

/-- the primitive byte -/
def k15 : Class := { plain "byte" none with kind := .primitive 'B', accessFlags := 0x411 }
/-- [B -/
def k16 : Class := { plain "[B" (some 0) with kind := .array 15 .byte, interfaces := #[14, 6], accessFlags := 1041 }

/-- the primitive int -/
def k17 : Class := { plain "int" none with kind := .primitive 'I', accessFlags := 0x411 }
/-- [I -/
def k18 : Class := { plain "[I" (some 0) with kind := .array 17 .int, interfaces := #[14, 6], accessFlags := 1041 }

def heap : Heap := #[{ cls := 10, slots := #[.long 0, .int 1, .null, .int 0, .null, .int 0, .int 0], vm := .statics 10 },
  { cls := 12, slots := #[.null, .null, .null], vm := .statics 12 }]
def classes : Array Class := #[k0, k1, k2, k3, k4, k5, k6, k7, k8, k9, k10, k11, k12, k13, k14, k15, k16, k17, k18]
def interned : List (Array UInt16 × Addr) := []
def slotsUsed : Nat := 10
def theMethod : MethodId := ⟨1, 1⟩
def args0 : Array Value := #[.int 5]
def aboutOver (below : List Frame) : State where
  vm := { classes := classes, interned := interned.toArray }
  heap := heap
  slotsUsed := slotsUsed
  threads := #[{ frames := .invoking theMethod args0 :: below }]
def below0 : List Frame := [.native { method := ⟨0, 0⟩, args := #[] }]
def about1 : State := aboutOver below0
def p0 : Program := .bare "" "" ""
def e0 : Env := launch0.env 0 0 0
theorem w_frames : about1.frames = Frame.invoking theMethod args0 :: below0 := rfl
set_option maxRecDepth 65536 in
theorem w_args : argsFit about1.vm theMethod args0 = true := by decide +kernel
set_option maxRecDepth 65536 in
theorem w_heap : heapFits about1 = true := by decide +kernel
set_option maxRecDepth 65536 in
theorem w_runnable : about1.curStatus? = some .runnable := by decide +kernel
set_option maxRecDepth 65536 in
theorem w_alone : about1.alone = true := by decide +kernel
set_option maxRecDepth 65536 in
theorem w_named : about1.methodNamed? x = some theMethod := by decide +kernel
set_option maxRecDepth 65536 in
theorem w_hears : about1.hears theMethod below0 = true := by decide +kernel
set_option maxRecDepth 65536 in
theorem w_ripe : about1.ripe theMethod args0 below0 = true := by decide +kernel
theorem w_running : about1.status = .running := rfl
set_option maxRecDepth 65536 in
theorem w_room : about1.hasRoom e0.platform room_1 = true :=
  launch0.hasRoom_least _ room_1 (by decide +kernel) (by decide +kernel) (by decide +kernel) (by decide +kernel) (by decide +kernel) (by decide +kernel)
theorem allAtoms_all (ts : List Jvm.Cond) (a : Array Jvm.Value) (st : Jvm.State) : (allAtoms ts).before a st = ts.all (fun c => c.before a st) := by
  induction ts with
  | nil => rfl
  | cons c t ih =>
    show (Jvm.Cond.and c (allAtoms t)).before a st = _
    rw [Jvm.Cond.before_and, ih, List.all_cons]
def words1 : List Jvm.Cond := Jvm.Cond.code x code maxLocals ret :: tables_1
/-- a 'code' word, met by the world's own term for the bytes: nothing is compared byte by byte -/
theorem code_word {y : MethodName} {bytes : ByteArray} {mx : Nat} {rt : Option FieldType} {a : Array Value} {s : State} {m : MethodId} {meth : Method} {c : Code} (h1 : s.methodNamed? y = some m) (h2 : s.vm.method? m = some meth) (h3 : meth.code = some c) (h4 : c.code = bytes)
    (h5 : (c.maxLocals == mx && c.exceptionTable.isEmpty && decide (c.maxStack ≤ mostOperands) && decide (meth.sig.returnType = rt) && !meth.locks && decide (parseMethodDescriptor y.desc = some meth.sig)) = true) : (Jvm.Cond.code y bytes mx rt).before a s = true := by
  simp only [Bool.and_eq_true, beq_iff_eq, Bool.not_eq_true', decide_eq_true_eq] at h5
  obtain ⟨⟨⟨⟨⟨g1, g2⟩, g3⟩, g4⟩, g5⟩, g6⟩ := h5
  simp [Cond.before, Cond.holds, Cond.value, h1, h2, h3, h4, g1, g2, g3, g4, g5, g6]
def isCode : Jvm.Cond → Bool
  | .code _ _ _ _ => true
  | _ => false
theorem all_split {L : List Jvm.Cond} {P : Jvm.Cond → Bool} (h1 : L.all (fun c => isCode c || P c) = true) (h2 : ∀ c ∈ L.filter isCode, P c = true) : L.all P = true := by
  refine List.all_eq_true.mpr fun c hc => ?_
  have h := List.all_eq_true.mp h1 c hc
  rcases Bool.eq_false_or_eq_true (isCode c) with hi | hi
  · exact h2 c (List.mem_filter.mpr ⟨hc, hi⟩)
  · simpa [hi] using h
set_option maxRecDepth 65536 in
theorem w_c0 : (Jvm.Cond.code x code maxLocals ret).before args0 about1 = true := code_word (m := ⟨1, 1⟩) (meth := k1m1) (c := k1c1) (by decide +kernel) rfl rfl rfl (by decide +kernel)
set_option maxRecDepth 65536 in
theorem w_c1 : (Jvm.Cond.code ({ cls := "com/example/juncture/juncture/eval/BooleanValue", name := "<init>", desc := "(Z)V" } : Jvm.MethodName) prog_11_method_1_code (2 : Nat) (Option.none : Option Jvm.ClassFile.FieldType)).before args0 about1 = true := code_word (m := ⟨5, 0⟩) (meth := k5m0) (c := k5c0) (by decide +kernel) rfl rfl rfl (by decide +kernel)
set_option maxRecDepth 65536 in
theorem w_c2 : (Jvm.Cond.code ({ cls := "java/lang/Record", name := "<init>", desc := "()V" } : Jvm.MethodName) jdk_30_method_1_code (1 : Nat) (Option.none : Option Jvm.ClassFile.FieldType)).before args0 about1 = true := code_word (m := ⟨2, 0⟩) (meth := k2m0) (c := k2c0) (by decide +kernel) rfl rfl rfl (by decide +kernel)
set_option maxRecDepth 65536 in
theorem w_c3 : (Jvm.Cond.code ({ cls := "java/lang/Object", name := "<init>", desc := "()V" } : Jvm.MethodName) object_method_1_code (1 : Nat) (Option.none : Option Jvm.ClassFile.FieldType)).before args0 about1 = true := code_word (m := ⟨0, 0⟩) (meth := k0m0) (c := k0c0) (by decide +kernel) rfl rfl rfl (by decide +kernel)
set_option maxRecDepth 65536 in
theorem w_c4 : (Jvm.Cond.code ({ cls := "com/example/juncture/juncture/eval/BooleanValue", name := "toString", desc := "()Ljava/lang/String;" } : Jvm.MethodName) prog_11_method_5_code (1 : Nat) (Option.some (Jvm.ClassFile.FieldType.object "java/lang/String"))).before args0 about1 = true := code_word (m := ⟨5, 1⟩) (meth := k5m1) (c := k5c1) (by decide +kernel) rfl rfl rfl (by decide +kernel)
set_option maxRecDepth 65536 in
theorem w_c5 : (Jvm.Cond.code ({ cls := "java/lang/String", name := "length", desc := "()I" } : Jvm.MethodName) jdk_42_method_54_code (1 : Nat) (Option.some Jvm.ClassFile.FieldType.int)).before args0 about1 = true := code_word (m := ⟨10, 1⟩) (meth := k10m1) (c := k10c1) (by decide +kernel) rfl rfl rfl (by decide +kernel)
set_option maxRecDepth 65536 in
theorem w_c6 : (Jvm.Cond.code ({ cls := "java/lang/String", name := "coder", desc := "()B" } : Jvm.MethodName) jdk_42_method_152_code (1 : Nat) (Option.some Jvm.ClassFile.FieldType.byte)).before args0 about1 = true := code_word (m := ⟨10, 3⟩) (meth := k10m3) (c := k10c3) (by decide +kernel) rfl rfl rfl (by decide +kernel)
set_option maxRecDepth 65536 in
theorem w_c7 : (Jvm.Cond.code ({ cls := "java/lang/String", name := "charAt", desc := "(I)C" } : Jvm.MethodName) jdk_42_method_56_code (2 : Nat) (Option.some Jvm.ClassFile.FieldType.char)).before args0 about1 = true := code_word (m := ⟨10, 2⟩) (meth := k10m2) (c := k10c2) (by decide +kernel) rfl rfl rfl (by decide +kernel)
set_option maxRecDepth 65536 in
theorem w_c8 : (Jvm.Cond.code ({ cls := "java/lang/String", name := "isLatin1", desc := "()Z" } : Jvm.MethodName) jdk_42_method_154_code (1 : Nat) (Option.some Jvm.ClassFile.FieldType.boolean)).before args0 about1 = true := code_word (m := ⟨10, 4⟩) (meth := k10m4) (c := k10c4) (by decide +kernel) rfl rfl rfl (by decide +kernel)
set_option maxRecDepth 65536 in
theorem w_c9 : (Jvm.Cond.code ({ cls := "java/lang/StringLatin1", name := "charAt", desc := "([BI)C" } : Jvm.MethodName) jdk_43_method_2_code (2 : Nat) (Option.some Jvm.ClassFile.FieldType.char)).before args0 about1 = true := code_word (m := ⟨11, 1⟩) (meth := k11m1) (c := k11c1) (by decide +kernel) rfl rfl rfl (by decide +kernel)
set_option maxRecDepth 65536 in
theorem w_c10 : (Jvm.Cond.code ({ cls := "java/lang/String", name := "checkIndex", desc := "(II)V" } : Jvm.MethodName) jdk_42_method_155_code (2 : Nat) (Option.none : Option Jvm.ClassFile.FieldType)).before args0 about1 = true := code_word (m := ⟨10, 5⟩) (meth := k10m5) (c := k10c5) (by decide +kernel) rfl rfl rfl (by decide +kernel)
set_option maxRecDepth 65536 in
theorem w_c11 : (Jvm.Cond.code ({ cls := "jdk/internal/util/Preconditions", name := "checkIndex", desc := "(IILjava/util/function/BiFunction;)I" } : Jvm.MethodName) jdk_41_method_11_code (3 : Nat) (Option.some Jvm.ClassFile.FieldType.int)).before args0 about1 = true := code_word (m := ⟨12, 1⟩) (meth := k12m1) (c := k12c1) (by decide +kernel) rfl rfl rfl (by decide +kernel)
def codes1 : List Jvm.Cond := [Jvm.Cond.code x code maxLocals ret, Jvm.Cond.code ({ cls := "com/example/juncture/juncture/eval/BooleanValue", name := "<init>", desc := "(Z)V" } : Jvm.MethodName) prog_11_method_1_code (2 : Nat) (Option.none : Option Jvm.ClassFile.FieldType), Jvm.Cond.code ({ cls := "java/lang/Record", name := "<init>", desc := "()V" } : Jvm.MethodName) jdk_30_method_1_code (1 : Nat) (Option.none : Option Jvm.ClassFile.FieldType), Jvm.Cond.code ({ cls := "java/lang/Object", name := "<init>", desc := "()V" } : Jvm.MethodName) object_method_1_code (1 : Nat) (Option.none : Option Jvm.ClassFile.FieldType), Jvm.Cond.code ({ cls := "com/example/juncture/juncture/eval/BooleanValue", name := "toString", desc := "()Ljava/lang/String;" } : Jvm.MethodName) prog_11_method_5_code (1 : Nat) (Option.some (Jvm.ClassFile.FieldType.object "java/lang/String")), Jvm.Cond.code ({ cls := "java/lang/String", name := "length", desc := "()I" } : Jvm.MethodName) jdk_42_method_54_code (1 : Nat) (Option.some Jvm.ClassFile.FieldType.int), Jvm.Cond.code ({ cls := "java/lang/String", name := "coder", desc := "()B" } : Jvm.MethodName) jdk_42_method_152_code (1 : Nat) (Option.some Jvm.ClassFile.FieldType.byte), Jvm.Cond.code ({ cls := "java/lang/String", name := "charAt", desc := "(I)C" } : Jvm.MethodName) jdk_42_method_56_code (2 : Nat) (Option.some Jvm.ClassFile.FieldType.char), Jvm.Cond.code ({ cls := "java/lang/String", name := "isLatin1", desc := "()Z" } : Jvm.MethodName) jdk_42_method_154_code (1 : Nat) (Option.some Jvm.ClassFile.FieldType.boolean), Jvm.Cond.code ({ cls := "java/lang/StringLatin1", name := "charAt", desc := "([BI)C" } : Jvm.MethodName) jdk_43_method_2_code (2 : Nat) (Option.some Jvm.ClassFile.FieldType.char), Jvm.Cond.code ({ cls := "java/lang/String", name := "checkIndex", desc := "(II)V" } : Jvm.MethodName) jdk_42_method_155_code (2 : Nat) (Option.none : Option Jvm.ClassFile.FieldType), Jvm.Cond.code ({ cls := "jdk/internal/util/Preconditions", name := "checkIndex", desc := "(IILjava/util/function/BiFunction;)I" } : Jvm.MethodName) jdk_41_method_11_code (3 : Nat) (Option.some Jvm.ClassFile.FieldType.int)]
set_option maxRecDepth 65536 in
theorem codes_eq : words1.filter isCode = codes1 := rfl
theorem w_codes : ∀ c ∈ words1.filter isCode, c.before args0 about1 = true := by
  rw [codes_eq]
  intro c hc
  simp only [codes1, List.mem_cons, List.not_mem_nil, or_false] at hc
  rcases hc with rfl | rfl | rfl | rfl | rfl | rfl | rfl | rfl | rfl | rfl | rfl | rfl
  · exact w_c0
  · exact w_c1
  · exact w_c2
  · exact w_c3
  · exact w_c4
  · exact w_c5
  · exact w_c6
  · exact w_c7
  · exact w_c8
  · exact w_c9
  · exact w_c10
  · exact w_c11
set_option maxRecDepth 65536 in
theorem w_t1 : (words1.take 24).all (fun c => isCode c || c.before args0 about1) = true := by decide +kernel
set_option maxRecDepth 65536 in
theorem w_t2 : ((words1.drop 24).take 24).all (fun c => isCode c || c.before args0 about1) = true := by decide +kernel
set_option maxRecDepth 65536 in
theorem w_t3 : ((words1.drop 24).drop 24).all (fun c => isCode c || c.before args0 about1) = true := by decide +kernel
theorem w_tables : (allAtoms (Jvm.Cond.code x code maxLocals ret :: tables_1)).before args0 about1 = true := by
  rw [allAtoms_all]
  show words1.all (fun c => c.before args0 about1) = true
  refine all_split ?_ w_codes
  rw [← List.take_append_drop 24 words1, List.all_append, w_t1, ← List.take_append_drop 24 (words1.drop 24), List.all_append, w_t2, w_t3]
  rfl
set_option maxRecDepth 65536 in
theorem w_rest : rest_1_c.before args0 about1 = true := by decide +kernel
set_option maxRecDepth 65536 in
theorem w_case : (Jvm.Cond.and given_1 narrow_1).before args0 about1 = true := by decide +kernel
set_option maxRecDepth 65536 in
theorem w_consts : constsHeld consts_1 about1 := Jvm.Lit.constsHeldB_iff.mp (by decide +kernel)
theorem w_applies : (headSpec (Jvm.Cond.code x code maxLocals ret :: tables_1) room_1).applies x e0.platform about1 = true :=
  (Spec.applies_iff w_frames).mpr ⟨w_running, w_runnable, w_alone, w_named, w_hears, w_ripe, w_room, w_tables⟩
theorem atStart : AtStart classFile x code maxLocals ret World_1 tables_1 room_1 Calls_1 rest_1 Pre_1 launch0 p0 e0 about1 theMethod args0 below0 :=
  ⟨lists_1, trivial, launch0.admits_env _ _ _, launch0.least_env, fairChoices_fair.cas, fairChoices_fair.clock, w_frames, w_args, w_heap, w_applies, ⟨w_consts, trivial⟩, w_rest, w_case⟩
end start1
theorem witness_1 : WitnessClaimed_1 := ⟨start1.p0, start1.e0, start1.about1, start1.theMethod, start1.args0, start1.below0, start1.atStart⟩
end Jvm.Pilot.@@N@@
