import JvmDerived
import JvmDerived.Pilot.@@N@@Statement
import JvmDerived.Pilot.@@N@@Code
set_option linter.unusedVariables false
set_option linter.unusedSimpArgs false
namespace Jvm.RoadKit
open Sem ClassFile Op Lib Jvm.Stand Jvm.Free Jvm.LawKit
/-! the goal of a walk, seen from where it stands -/
def own_Go (p : Program) (e : Env) (below : List Frame) (PO : Outcome → State → Prop) (U : State) : Prop :=
  ∃ s₂ o, Steps p.tables e below U s₂ ∧ s₂.status = .running ∧ Ended s₂ below o ∧ PO o s₂
def own_PO (s : State) (Q : Option Value → Heap → List Loc → Prop) (C N : Nat) : Outcome → State → Prop :=
  fun o U' => ∃ v L, o = .returned v ∧ Q v U'.heap L ∧ FrameEnd s o U' L C N
theorem own_back {p : Program} {e : Env} {below : List Frame} {PO : Outcome → State → Prop} {U V : State} (h : own_Go p e below PO V)
    (st : ∀ t, Steps p.tables e below V t → Steps p.tables e below U t) : own_Go p e below PO U := by
  obtain ⟨t, o, h1, h2⟩ := h
  exact ⟨t, o, st t h1, h2⟩
theorem own_gen {A : Type} (x : A) (P : A → Prop) (h : ∀ c, c = x → P c) : P x := h x rfl
section New
variable {p : Program} {l : Launch} {e : Env} {R : Room} {s : State} {m : MethodId} {args : Array Value} {below : List Frame} {meth : Method} {c : Code} {T : State} {locs : List Loc} {cells slots : Nat} {h : Heap}
  {Q : Option Value → Heap → List Loc → Prop} {C N : Nat}
theorem own_end (X : Stand p l e R s m args below meth c T locs cells slots) {v : Option Value} {U : State} (hv : meth.sig.returnType = none → v = none) (eT : T.heap = h) (hk : meth.locks = false)
    (st : ∀ fs, (∀ (f : JFrame) (acts : List Action), f.method = m → f.locked = none → f.entered = [] → (doReturn e (T.setTop f) acts v).1 = T.setFrames fs) → Steps p.tables e below U (T.setFrames fs))
    (hQ : Q v h locs) (hc : cells ≤ C) (hn : slots ≤ N) : own_Go p e below (own_PO s Q C N) U := by
  obtain ⟨fs, hr, hrun, hended, hW, hsame⟩ := X.leave (v := v) hv hk
  subst eT
  exact ⟨_, _, st fs hr, hrun, hended, _, _, rfl, hQ, ⟨_, rfl⟩, hW, hsame.mono hc hn⟩
theorem own_retV (X : Stand p l e R s m args below meth c T locs cells slots) (hx : p.tables.exec = Jvm.exec) {pc : Nat} {Ls : Array Slot} (hret : meth.sig.returnType = none) (hd : decode c.code pc = .ok (.return_, 1))
    (eT : T.heap = h) (hk : meth.locks = false) (hQ : Q none h locs) (hc : cells ≤ C) (hn : slots ≤ N) : own_Go p e below (own_PO s Q C N) (T.setTop (mkF m pc Ls [])) :=
  own_end X (fun _ => rfl) eT hk (fun fs hr => X.returnOut hx hret hd hr) hQ hc hn
theorem own_retI (X : Stand p l e R s m args below meth c T locs cells slots) (hx : p.tables.exec = Jvm.exec) {pc : Nat} {Ls : Array Slot} {z : Int32} {rest : List Value} (hret : meth.sig.returnType = some .int) (hd : decode c.code pc = .ok (.ireturn, 1))
    (eT : T.heap = h) (hk : meth.locks = false) (hQ : Q (some (.int z)) h locs) (hc : cells ≤ C) (hn : slots ≤ N) : own_Go p e below (own_PO s Q C N) (T.setTop (mkF m pc Ls (.int z :: rest))) :=
  own_end X (fun q => by rw [hret] at q; cases q) eT hk (fun fs hr => retOut X hx hret rfl (Or.inl ⟨rfl, Or.inl rfl, z, rfl⟩) hd hr) hQ hc hn
theorem own_retN (X : Stand p l e R s m args below meth c T locs cells slots) (hx : p.tables.exec = Jvm.exec) {pc : Nat} {Ls : Array Slot} {z : Int32} {t : FieldType} {rest : List Value} (hret : meth.sig.returnType = some t) (hz : nar t z = z) (ht : t = .boolean ∨ t = .byte ∨ t = .char ∨ t = .short) (hd : decode c.code pc = .ok (.ireturn, 1))
    (eT : T.heap = h) (hk : meth.locks = false) (hQ : Q (some (.int z)) h locs) (hc : cells ≤ C) (hn : slots ≤ N) : own_Go p e below (own_PO s Q C N) (T.setTop (mkF m pc Ls (.int z :: rest))) :=
  own_end X (fun q => by rw [hret] at q; cases q) eT hk (fun fs hr => retN X hx (t := t) hret ht hd (by rw [hz]; exact hr)) hQ hc hn
theorem own_retJ (X : Stand p l e R s m args below meth c T locs cells slots) (hx : p.tables.exec = Jvm.exec) {pc : Nat} {Ls : Array Slot} {z : Int64} {rest : List Value} (hret : meth.sig.returnType = some .long) (hd : decode c.code pc = .ok (.lreturn, 1))
    (eT : T.heap = h) (hk : meth.locks = false) (hQ : Q (some (.long z)) h locs) (hc : cells ≤ C) (hn : slots ≤ N) : own_Go p e below (own_PO s Q C N) (T.setTop (mkF m pc Ls (.long z :: rest))) :=
  own_end X (fun q => by rw [hret] at q; cases q) eT hk (fun fs hr => retOut X hx hret rfl (Or.inr (Or.inl ⟨rfl, rfl, z, rfl⟩)) hd hr) hQ hc hn
theorem own_retD (X : Stand p l e R s m args below meth c T locs cells slots) (hx : p.tables.exec = Jvm.exec) {pc : Nat} {Ls : Array Slot} {z : UInt64} {rest : List Value} (hret : meth.sig.returnType = some .double) (hd : decode c.code pc = .ok (.dreturn, 1))
    (eT : T.heap = h) (hk : meth.locks = false) (hQ : Q (some (.double z)) h locs) (hc : cells ≤ C) (hn : slots ≤ N) : own_Go p e below (own_PO s Q C N) (T.setTop (mkF m pc Ls (.double z :: rest))) :=
  own_end X (fun q => by rw [hret] at q; cases q) eT hk (fun fs hr => retOut X hx hret rfl (Or.inr (Or.inr (Or.inl ⟨rfl, rfl, z, rfl⟩))) hd hr) hQ hc hn
theorem own_retA (X : Stand p l e R s m args below meth c T locs cells slots) (hx : p.tables.exec = Jvm.exec) {pc : Nat} {Ls : Array Slot} {w : Value} {t : FieldType} {rest : List Value} (hret : meth.sig.returnType = some t) (ht : t.isReference = true) (hw : w.isRef = true) (hd : decode c.code pc = .ok (.areturn, 1))
    (eT : T.heap = h) (hk : meth.locks = false) (hQ : Q (some w) h locs) (hc : cells ≤ C) (hn : slots ≤ N) : own_Go p e below (own_PO s Q C N) (T.setTop (mkF m pc Ls (w :: rest))) :=
  own_end X (fun q => by rw [hret] at q; cases q) eT hk (fun fs hr => retOut X hx hret (by cases t <;> first | (cases ht; done) | (cases w <;> first | (cases hw; done) | rfl)) (Or.inr (Or.inr (Or.inr (Or.inr ⟨rfl, ht, hw⟩)))) hd hr) hQ hc hn
end New
end Jvm.RoadKit
namespace Jvm.RoadKit
open Sem ClassFile Op Lib Jvm.Stand Jvm.Free Jvm.LawKit
theorem own_eqI {args : Array Value} {first s : State} {o : Option Outcome} {idx : List Nat} {a : Term} {k : Int32} (h : (Cond.eq a (.int k)).value args first o s idx = some true) : a.eval args first o idx s = some (.int k) := by
  obtain ⟨x, y, h1, h2, h3, -⟩ := cmp_v (Or.inl h)
  cases h2
  cases x <;> simp [Kin, Value.isRef] at h3
  rename_i z
  have q : (Cond.eq a (.int k)).value args first o s idx = some (decide (z = k)) := Cond.eq_ints h1 rfl
  rw [q] at h
  rw [h1, of_decide_eq_true (Option.some.inj h)]
theorem own_eqJ {args : Array Value} {first s : State} {o : Option Outcome} {idx : List Nat} {a : Term} {k : Int64} (h : (Cond.eq a (.long k)).value args first o s idx = some true) : a.eval args first o idx s = some (.long k) := by
  obtain ⟨x, y, h1, h2, h3, -⟩ := cmp_v (Or.inl h)
  cases h2
  cases x <;> simp [Kin, Value.isRef] at h3
  rename_i z
  have q : (Cond.eq a (.long k)).value args first o s idx = some (decide (z = k)) := eq_L h1 rfl
  rw [q] at h
  rw [h1, of_decide_eq_true (Option.some.inj h)]
theorem own_fldI {args : Array Value} {s : State} {t : Term} {a : Addr} {C n d : String} {k : Int32} (ev : t.eval args s none [] s = some (.ref a)) (h : (Cond.eq (.field t C n d) (.int k)).value args s none s [] = some true) : Fld s s.heap a C n d (.int k) :=
  Fld.start ((fld_at ev).symm.trans (own_eqI h))
end Jvm.RoadKit
namespace Jvm.RoadKit
open Sem ClassFile Op Lib Jvm.Stand Jvm.Free Jvm.LawKit
section Heap
variable {p : Program} {l : Launch} {e : Env} {R : Room} {s : State} {m : MethodId} {args : Array Value} {below : List Frame} {meth : Method} {c : Code} {T : State} {locs : List Loc} {cells slots : Nat} {h h' : Heap} {Z : State}
  {a : Addr} {k : ClassId} {n : Int32} {vs : List Value} {dv : Value} {ws ws' : List Addr} {C : String}
theorem own_keep_more (K : Keep h h' ws) (q : ∀ x ∈ ws, x ∈ ws') : Keep h h' ws' := ⟨K.1, fun x c hx r => K.2.1 x c hx fun z => r (q x z), K.2.2⟩
theorem own_sta_keep {C n d : String} {v : Value} (F : Sta Z h C n d v) (K : Keep h h' ws) (q : ∀ x ∈ ws, ∀ cell : Cell, h[x]? = some cell → cell.vm.isStatics = false) : Sta Z h' C n d v := by
  obtain ⟨cf, i, kk, f, st, cell, h1, h2, h3, h4, h5, h6, h7⟩ := F
  exact ⟨cf, i, kk, f, st, cell, h1, h2, h3, h4, K.2.1 st cell h5 (fun z => by rw [q st z cell h5] at h6; cases h6), h6, h7⟩
/-- a private method is selected of itself: the class is no interface, as another 'selects' word says -/
theorem own_selpriv {s : State} {args args' : Array Value} {y z w : MethodName} (hs : (Cond.selects y.cls z w).before args' s = true) (hpriv : s.PrivateAt y) (hinst : (Cond.instanceMethod y).before args s = true) (hy : y.cls ≠ "java/lang/invoke/MethodHandle" ∧ y.cls ≠ "java/lang/invoke/VarHandle") (hw : w.cls = y.cls := by rfl) :
    (Cond.selects y.cls y y).before args s = true := by
  obtain ⟨c2, r2, m2, q1, q2, q3, q4, kP, hkP, hkPi⟩ := Cond.selects_spec hs
  have hc := findClass_of_methodNamed q3
  rw [hw] at hc
  exact selects_self_of_private hc hkP hkPi hpriv hinst hy
theorem own_stI (X : Stand p l e R s m args below meth c T locs cells slots) (hx : p.tables.exec = Jvm.exec) (hZ : Z.Warmed39 s.vm) (eT : T.heap = h) (A : Arv Z h a k .int n vs dv) {j x : Int32} (hj : ¬ j < 0 ∧ j < n) {i : Nat} (hi : j.toNatClampNeg = i) (hl : i < vs.length) {g : JFrame} (hg : g.method = m) {rest : List Value} (hs : g.stack = .int x :: .int j :: .ref a :: rest) (hd : decode c.code g.pc = .ok (.iastore, 1)) :
    ∃ T' h', Stand p l e R s m args below meth c T' (locs ++ [⟨a, j.toNatClampNeg⟩]) cells slots ∧ T'.heap = h' ∧ Wr h h' a j.toNatClampNeg (.int x) ∧ Arv Z h' a k .int n (vs.set i (.int x)) dv ∧ ∀ target, Steps p.tables e below (T'.setTop { g with pc := g.pc + 1, stack := rest }) target → Steps p.tables e below (T.setTop g) target := by
  obtain ⟨cl, Ar, q, S, N, H, G⟩ := A
  obtain ⟨T', h', X', e', W, st⟩ := stI X hx hZ eT Ar (inb_of S hj) hg hs hd
  exact ⟨T', h', X', e', W, Arv.set Ar q S N H G rfl W i hi hl, st⟩
theorem own_stJ (X : Stand p l e R s m args below meth c T locs cells slots) (hx : p.tables.exec = Jvm.exec) (hZ : Z.Warmed39 s.vm) (eT : T.heap = h) (A : Arv Z h a k .long n vs dv) {j : Int32} {x : Int64} (hj : ¬ j < 0 ∧ j < n) {i : Nat} (hi : j.toNatClampNeg = i) (hl : i < vs.length) {g : JFrame} (hg : g.method = m) {rest : List Value} (hs : g.stack = .long x :: .int j :: .ref a :: rest) (hd : decode c.code g.pc = .ok (.lastore, 1)) :
    ∃ T' h', Stand p l e R s m args below meth c T' (locs ++ [⟨a, j.toNatClampNeg⟩]) cells slots ∧ T'.heap = h' ∧ Wr h h' a j.toNatClampNeg (.long x) ∧ Arv Z h' a k .long n (vs.set i (.long x)) dv ∧ ∀ target, Steps p.tables e below (T'.setTop { g with pc := g.pc + 1, stack := rest }) target → Steps p.tables e below (T.setTop g) target := by
  obtain ⟨cl, Ar, q, S, N, H, G⟩ := A
  obtain ⟨T', h', X', e', W, st⟩ := stJ X hx hZ eT Ar (inb_of S hj) hg hs hd
  exact ⟨T', h', X', e', W, Arv.set Ar q S N H G rfl W i hi hl, st⟩
theorem own_stD (X : Stand p l e R s m args below meth c T locs cells slots) (hx : p.tables.exec = Jvm.exec) (hZ : Z.Warmed39 s.vm) (eT : T.heap = h) (A : Arv Z h a k .double n vs dv) {j : Int32} {x : UInt64} (hj : ¬ j < 0 ∧ j < n) {i : Nat} (hi : j.toNatClampNeg = i) (hl : i < vs.length) {g : JFrame} (hg : g.method = m) {rest : List Value} (hs : g.stack = .double x :: .int j :: .ref a :: rest) (hd : decode c.code g.pc = .ok (.dastore, 1)) :
    ∃ T' h', Stand p l e R s m args below meth c T' (locs ++ [⟨a, j.toNatClampNeg⟩]) cells slots ∧ T'.heap = h' ∧ Wr h h' a j.toNatClampNeg (.double x) ∧ Arv Z h' a k .double n (vs.set i (.double x)) dv ∧ ∀ target, Steps p.tables e below (T'.setTop { g with pc := g.pc + 1, stack := rest }) target → Steps p.tables e below (T.setTop g) target := by
  obtain ⟨cl, Ar, q, S, N, H, G⟩ := A
  obtain ⟨T', h', X', e', W, st⟩ := stD X hx hZ eT Ar (inb_of S hj) hg hs hd
  exact ⟨T', h', X', e', W, Arv.set Ar q S N H G rfl W i hi hl, st⟩
theorem own_stB (X : Stand p l e R s m args below meth c T locs cells slots) (hx : p.tables.exec = Jvm.exec) (hZ : Z.Warmed39 s.vm) (eT : T.heap = h) (A : Arv Z h a k .byte n vs dv) {j x : Int32} (hj : ¬ j < 0 ∧ j < n) {i : Nat} (hi : j.toNatClampNeg = i) (hl : i < vs.length) {g : JFrame} (hg : g.method = m) {rest : List Value} (hs : g.stack = .int x :: .int j :: .ref a :: rest) (hd : decode c.code g.pc = .ok (.bastore, 1)) :
    ∃ T' h', Stand p l e R s m args below meth c T' (locs ++ [⟨a, j.toNatClampNeg⟩]) cells slots ∧ T'.heap = h' ∧ Wr h h' a j.toNatClampNeg (.int (nar .byte x)) ∧ Arv Z h' a k .byte n (vs.set i (.int (nar .byte x))) dv ∧ ∀ target, Steps p.tables e below (T'.setTop { g with pc := g.pc + 1, stack := rest }) target → Steps p.tables e below (T.setTop g) target := by
  obtain ⟨cl, Ar, q, S, N, H, G⟩ := A
  obtain ⟨T', h', X', e', W, st⟩ := stB X hx hZ eT Ar (inb_of S hj) hg hs hd
  exact ⟨T', h', X', e', W, Arv.set Ar q S N H G (fits_nar_byte x) W i hi hl, st⟩
theorem own_stZ (X : Stand p l e R s m args below meth c T locs cells slots) (hx : p.tables.exec = Jvm.exec) (hZ : Z.Warmed39 s.vm) (eT : T.heap = h) (A : Arv Z h a k .boolean n vs dv) {j x : Int32} (hj : ¬ j < 0 ∧ j < n) {i : Nat} (hi : j.toNatClampNeg = i) (hl : i < vs.length) {g : JFrame} (hg : g.method = m) {rest : List Value} (hs : g.stack = .int x :: .int j :: .ref a :: rest) (hd : decode c.code g.pc = .ok (.bastore, 1)) :
    ∃ T' h', Stand p l e R s m args below meth c T' (locs ++ [⟨a, j.toNatClampNeg⟩]) cells slots ∧ T'.heap = h' ∧ Wr h h' a j.toNatClampNeg (.int (nar .boolean x)) ∧ Arv Z h' a k .boolean n (vs.set i (.int (nar .boolean x))) dv ∧ ∀ target, Steps p.tables e below (T'.setTop { g with pc := g.pc + 1, stack := rest }) target → Steps p.tables e below (T.setTop g) target := by
  obtain ⟨cl, Ar, q, S, N, H, G⟩ := A
  obtain ⟨T', h', X', e', W, st⟩ := stZ X hx hZ eT Ar (inb_of S hj) hg hs hd
  exact ⟨T', h', X', e', W, Arv.set Ar q S N H G (fits_nar_bool x) W i hi hl, st⟩
theorem own_stC (X : Stand p l e R s m args below meth c T locs cells slots) (hx : p.tables.exec = Jvm.exec) (hZ : Z.Warmed39 s.vm) (eT : T.heap = h) (A : Arv Z h a k .char n vs dv) {j x : Int32} (hj : ¬ j < 0 ∧ j < n) {i : Nat} (hi : j.toNatClampNeg = i) (hl : i < vs.length) {g : JFrame} (hg : g.method = m) {rest : List Value} (hs : g.stack = .int x :: .int j :: .ref a :: rest) (hd : decode c.code g.pc = .ok (.castore, 1)) :
    ∃ T' h', Stand p l e R s m args below meth c T' (locs ++ [⟨a, j.toNatClampNeg⟩]) cells slots ∧ T'.heap = h' ∧ Wr h h' a j.toNatClampNeg (.int (nar .char x)) ∧ Arv Z h' a k .char n (vs.set i (.int (nar .char x))) dv ∧ ∀ target, Steps p.tables e below (T'.setTop { g with pc := g.pc + 1, stack := rest }) target → Steps p.tables e below (T.setTop g) target := by
  obtain ⟨cl, Ar, q, S, N, H, G⟩ := A
  obtain ⟨T', h', X', e', W, st⟩ := stC X hx hZ eT Ar (inb_of S hj) hg hs hd
  exact ⟨T', h', X', e', W, Arv.set Ar q S N H G (fits_nar_char x) W i hi hl, st⟩
theorem own_stR (X : Stand p l e R s m args below meth c T locs cells slots) (hx : p.tables.exec = Jvm.exec) (hZ : Z.Warmed39 s.vm) (eT : T.heap = h) (A : Arv Z h a k (.object C) n vs dv) (O : Ovr Z k C) {y : Addr} (I : Ins Z h y C true) {j : Int32} (hj : ¬ j < 0 ∧ j < n) {i : Nat} (hi : j.toNatClampNeg = i) (hl : i < vs.length) {g : JFrame} (hg : g.method = m) {rest : List Value} (hs : g.stack = .ref y :: .int j :: .ref a :: rest) (hd : decode c.code g.pc = .ok (.aastore, 1)) :
    ∃ T' h', Stand p l e R s m args below meth c T' (locs ++ [⟨a, j.toNatClampNeg⟩]) cells slots ∧ T'.heap = h' ∧ Wr h h' a j.toNatClampNeg (.ref y) ∧ Arv Z h' a k (.object C) n (vs.set i (.ref y)) dv ∧ ∀ target, Steps p.tables e below (T'.setTop { g with pc := g.pc + 1, stack := rest }) target → Steps p.tables e below (T.setTop g) target := by
  obtain ⟨cl, Ar, q, S, N, H, G⟩ := A
  obtain ⟨T', h', X', e', W, st⟩ := stR X hx hZ eT Ar (inb_of S hj) rfl (Sto.ofV Ar q O I) hg hs hd
  exact ⟨T', h', X', e', W, Arv.set Ar q S N H G rfl W i hi hl, st⟩
theorem own_ldI (X : Stand p l e R s m args below meth c T locs cells slots) (hx : p.tables.exec = Jvm.exec) (hZ : Z.Warmed39 s.vm) (eT : T.heap = h) (A : Arv Z h a k .int n vs dv) {j : Int32} {v : Value} (hj : ¬ j < 0 ∧ j < n) (hv : vs.getD j.toNatClampNeg dv = v) {g : JFrame} (hg : g.method = m) {rest : List Value} (hs : g.stack = .int j :: .ref a :: rest) (hd : decode c.code g.pc = .ok (.iaload, 1)) :
    ∀ target, Steps p.tables e below (T.setTop { g with pc := g.pc + 1, stack := v :: rest }) target → Steps p.tables e below (T.setTop g) target := by
  obtain ⟨cl, Ar, q, S, N, H, G⟩ := A
  exact fun t k => X.iaload hx (by rw [eT]; exact Ar.1) (State.isArrayOf_alike hZ.alike Ar.2.1) Ar.2.2 (inb_of S hj) (H.at (inb_of S hj) hv) hg hs hd t k
theorem own_ldJ (X : Stand p l e R s m args below meth c T locs cells slots) (hx : p.tables.exec = Jvm.exec) (hZ : Z.Warmed39 s.vm) (eT : T.heap = h) (A : Arv Z h a k .long n vs dv) {j : Int32} {v : Value} (hj : ¬ j < 0 ∧ j < n) (hv : vs.getD j.toNatClampNeg dv = v) {g : JFrame} (hg : g.method = m) {rest : List Value} (hs : g.stack = .int j :: .ref a :: rest) (hd : decode c.code g.pc = .ok (.laload, 1)) :
    ∀ target, Steps p.tables e below (T.setTop { g with pc := g.pc + 1, stack := v :: rest }) target → Steps p.tables e below (T.setTop g) target := by
  obtain ⟨cl, Ar, q, S, N, H, G⟩ := A
  exact fun t k => X.laload hx (by rw [eT]; exact Ar.1) (State.isArrayOf_alike hZ.alike Ar.2.1) Ar.2.2 (inb_of S hj) (H.at (inb_of S hj) hv) hg hs hd t k
theorem own_ldC (X : Stand p l e R s m args below meth c T locs cells slots) (hx : p.tables.exec = Jvm.exec) (hZ : Z.Warmed39 s.vm) (eT : T.heap = h) (A : Arv Z h a k .char n vs dv) {j : Int32} {v : Value} (hj : ¬ j < 0 ∧ j < n) (hv : vs.getD j.toNatClampNeg dv = v) {g : JFrame} (hg : g.method = m) {rest : List Value} (hs : g.stack = .int j :: .ref a :: rest) (hd : decode c.code g.pc = .ok (.caload, 1)) :
    ∀ target, Steps p.tables e below (T.setTop { g with pc := g.pc + 1, stack := v :: rest }) target → Steps p.tables e below (T.setTop g) target := by
  obtain ⟨cl, Ar, q, S, N, H, G⟩ := A
  exact fun t k => X.caload hx (by rw [eT]; exact Ar.1) (State.isArrayOf_alike hZ.alike Ar.2.1) Ar.2.2 (inb_of S hj) (H.at (inb_of S hj) hv) hg hs hd t k
theorem own_ldD (X : Stand p l e R s m args below meth c T locs cells slots) (hx : p.tables.exec = Jvm.exec) (hZ : Z.Warmed39 s.vm) (eT : T.heap = h) (A : Arv Z h a k .double n vs dv) {j : Int32} {v : Value} (hj : ¬ j < 0 ∧ j < n) (hv : vs.getD j.toNatClampNeg dv = v) {g : JFrame} (hg : g.method = m) {rest : List Value} (hs : g.stack = .int j :: .ref a :: rest) (hd : decode c.code g.pc = .ok (.daload, 1)) :
    ∀ target, Steps p.tables e below (T.setTop { g with pc := g.pc + 1, stack := v :: rest }) target → Steps p.tables e below (T.setTop g) target := by
  obtain ⟨cl, Ar, q, S, N, H, G⟩ := A
  exact fun t k => X.daload hx (by rw [eT]; exact Ar.1) (State.isArrayOf_alike hZ.alike Ar.2.1) Ar.2.2 (inb_of S hj) (H.at (inb_of S hj) hv) hg hs hd t k
theorem own_ldB (X : Stand p l e R s m args below meth c T locs cells slots) (hx : p.tables.exec = Jvm.exec) (hZ : Z.Warmed39 s.vm) (eT : T.heap = h) (A : Arv Z h a k .byte n vs dv) {j : Int32} {v : Value} (hj : ¬ j < 0 ∧ j < n) (hv : vs.getD j.toNatClampNeg dv = v) {g : JFrame} (hg : g.method = m) {rest : List Value} (hs : g.stack = .int j :: .ref a :: rest) (hd : decode c.code g.pc = .ok (.baload, 1)) :
    ∀ target, Steps p.tables e below (T.setTop { g with pc := g.pc + 1, stack := v :: rest }) target → Steps p.tables e below (T.setTop g) target := by
  obtain ⟨cl, Ar, q, S, N, H, G⟩ := A
  exact fun t k => X.baloadBytes hx (by rw [eT]; exact Ar.1) (State.isArrayOf_alike hZ.alike Ar.2.1) Ar.2.2 (inb_of S hj) (H.at (inb_of S hj) hv) hg hs hd t k
theorem own_ldR (X : Stand p l e R s m args below meth c T locs cells slots) (hx : p.tables.exec = Jvm.exec) (hZ : Z.Warmed39 s.vm) (eT : T.heap = h) {ty : FieldType} (A : Arv Z h a k ty n vs dv) (hty : ty.isReference = true) {j : Int32} {v : Value} (hj : ¬ j < 0 ∧ j < n) (hv : vs.getD j.toNatClampNeg dv = v) {g : JFrame} (hg : g.method = m) {rest : List Value} (hs : g.stack = .int j :: .ref a :: rest) (hd : decode c.code g.pc = .ok (.aaload, 1)) :
    ∀ target, Steps p.tables e below (T.setTop { g with pc := g.pc + 1, stack := v :: rest }) target → Steps p.tables e below (T.setTop g) target := by
  obtain ⟨cl, Ar, q, S, N, H, G⟩ := A
  exact fun t k => X.aaload hx (by rw [eT]; exact Ar.1) (State.isArrayOf_alike hZ.alike Ar.2.1) hty Ar.2.2 (inb_of S hj) (H.at (inb_of S hj) hv) hg hs hd t k
theorem own_len (X : Stand p l e R s m args below meth c T locs cells slots) (hx : p.tables.exec = Jvm.exec) (hZ : Z.Warmed39 s.vm) (eT : T.heap = h) {ty : FieldType} (A : Arv Z h a k ty n vs dv) {g : JFrame} (hg : g.method = m) {rest : List Value} (hs : g.stack = .ref a :: rest) (hd : decode c.code g.pc = .ok (.arraylength, 1)) :
    ∀ target, Steps p.tables e below (T.setTop { g with pc := g.pc + 1, stack := .int n :: rest }) target → Steps p.tables e below (T.setTop g) target := by
  obtain ⟨cl, Ar, q, S, N, H, G⟩ := A
  intro t kk
  refine X.arraylength hx (by rw [eT]; exact Ar.1) (State.isArrayOf_alike hZ.alike Ar.2.1) hg hs hd t ?_
  rw [len_of S N]; exact kk
end Heap
end Jvm.RoadKit
namespace Jvm.RoadKit
open Sem ClassFile Op Lib Jvm.Stand Jvm.Free Jvm.LawKit
theorem own_ofNat {c : Int32} (h0 : 0 ≤ c.toInt) : c = Int32.ofNat c.toInt.toNat := by
  apply Int32.toInt_inj.mp
  show c.toInt = (Int32.ofNat c.toInt.toNat).toInt
  rw [Int32.toInt_ofNat_of_lt (by have := c.toInt_lt; omega), Int.toNat_of_nonneg h0]
theorem own_clamp {c : Int32} : c.toNatClampNeg = c.toInt.toNat := rfl
/-- a remainder of what a mask left -/
theorem own_pm (x : Int32) {y : Int32} {d : Int} (hy : y.toInt = d) (hd : 0 < d) : ((x &&& 2147483647) % y).toInt = x.toInt % 2147483648 % d ∧ 0 ≤ ((x &&& 2147483647) % y).toInt ∧ ((x &&& 2147483647) % y).toInt < d := by
  have e := c_mask x 2147483647 31 (by decide) (by decide)
  have e2 : ((2 ^ 31 : Nat) : Int) = 2147483648 := by decide
  rw [e2] at e
  have h0 : 0 ≤ (x &&& 2147483647).toInt := by rw [e]; exact Int.emod_nonneg _ (by decide)
  have q := (c_irem (x &&& 2147483647) y d hy).1 h0
  rw [e] at q
  have hd' : d ≠ 0 := by omega
  exact ⟨q, by rw [q]; exact Int.emod_nonneg _ hd', by rw [q]; exact Int.emod_lt_of_pos _ hd⟩
theorem own_r14 {x i : Int32} (h : i = (x &&& 2147483647) % 14) : i = 0 ∨ i = 1 ∨ i = 2 ∨ i = 3 ∨ i = 4 ∨ i = 5 ∨ i = 6 ∨ i = 7 ∨ i = 8 ∨ i = 9 ∨ i = 10 ∨ i = 11 ∨ i = 12 ∨ i = 13 := by
  obtain ⟨-, h1, h2⟩ := own_pm x (y := 14) (d := 14) (by decide) (by decide)
  rw [← h] at h1 h2
  have t : ∀ k : Fin 14, (Int32.ofNat k.1 = 0 ∨ Int32.ofNat k.1 = 1 ∨ Int32.ofNat k.1 = 2 ∨ Int32.ofNat k.1 = 3 ∨ Int32.ofNat k.1 = 4 ∨ Int32.ofNat k.1 = 5 ∨ Int32.ofNat k.1 = 6 ∨ Int32.ofNat k.1 = 7 ∨ Int32.ofNat k.1 = 8 ∨ Int32.ofNat k.1 = 9 ∨ Int32.ofNat k.1 = 10 ∨ Int32.ofNat k.1 = 11 ∨ Int32.ofNat k.1 = 12 ∨ Int32.ofNat k.1 = 13) := by decide +kernel
  have q := t ⟨i.toInt.toNat, by omega⟩
  rwa [← own_ofNat h1] at q
end Jvm.RoadKit
namespace Jvm.Pilot.@@N@@
open Jvm Jvm.ClassFile Sem Op Lib Jvm.Free Jvm.Stand Jvm.LawKit Jvm.RoadKit Bundle Jvm.Pilot.@@N@@.Jvm.D

/-! the plain law -/
def own_db (pD pP : Int32) : Int64 := ((((48 : Int32) + pD).toInt64) <<< (((8 : Int32) * pP) &&& 0x3f).toInt64)
def own_dec (jW : Int64) (pC : Int32) : Int32 := ((((((((((jW - (3472328296227680304 : Int64)) <<< (((8 : Int32) * ((8 : Int32) - pC)) &&& 0x3f).toInt64) * (10 : Int64)) + ((((jW - (3472328296227680304 : Int64)) <<< (((8 : Int32) * ((8 : Int32) - pC)) &&& 0x3f).toInt64).toUInt64 >>> ((8 : Int32) &&& 0x3f).toInt64.toUInt64).toInt64)) &&& (1095216660735 : Int64)) * (4294967296000100 : Int64)) + ((((((((jW - (3472328296227680304 : Int64)) <<< (((8 : Int32) * ((8 : Int32) - pC)) &&& 0x3f).toInt64) * (10 : Int64)) + ((((jW - (3472328296227680304 : Int64)) <<< (((8 : Int32) * ((8 : Int32) - pC)) &&& 0x3f).toInt64).toUInt64 >>> ((8 : Int32) &&& 0x3f).toInt64.toUInt64).toInt64)).toUInt64 >>> ((16 : Int32) &&& 0x3f).toInt64.toUInt64).toInt64) &&& (1095216660735 : Int64)) * (42949672960001 : Int64))).toUInt64 >>> ((32 : Int32) &&& 0x3f).toInt64.toUInt64).toInt64).toInt32)

theorem own_and_split (n a b k : Nat) (ha : a < 2 ^ k) : n &&& (a + 2 ^ k * b) = (n % 2 ^ k &&& a) + 2 ^ k * (n / 2 ^ k &&& b) := by
  have h1 : (n &&& (a + 2 ^ k * b)) % 2 ^ k = (n % 2 ^ k &&& a) := by
    rw [Nat.and_mod_two_pow, Nat.add_mul_mod_self_left, Nat.mod_eq_of_lt ha]
  have h2 : (n &&& (a + 2 ^ k * b)) / 2 ^ k = (n / 2 ^ k &&& b) := by
    rw [← Nat.shiftRight_eq_div_pow, Nat.shiftRight_and_distrib, Nat.shiftRight_eq_div_pow, Nat.shiftRight_eq_div_pow, Nat.add_mul_div_left _ _ (Nat.two_pow_pos k), Nat.div_eq_of_lt ha, Nat.zero_add]
  have h3 := Nat.mod_add_div (n &&& (a + 2 ^ k * b)) (2 ^ k)
  rw [h1, h2] at h3
  exact h3.symm
theorem own_and255 (x : Nat) : x &&& 255 = x % 256 := by
  have q := Nat.and_two_pow_sub_one_eq_mod x 8
  first | exact q | simpa using q
theorem own_natmask2 (n : Nat) : n &&& 1095216660735 = n % 256 + 4294967296 * (n / 4294967296 % 256) := by
  have e : (1095216660735 : Nat) = 255 + 2 ^ 32 * 255 := by decide
  rw [e, own_and_split _ _ _ _ (by decide)]
  show (n % 4294967296 &&& 255) + 4294967296 * (n / 4294967296 &&& 255) = _
  rw [own_and255, own_and255]
  omega
/-- the unsigned reading -/
def own_u (x : Int64) : Int := x.toInt % 18446744073709551616
theorem own_u_nat (x : Int64) : own_u x = (x.toBitVec.toNat : Int) := by
  show x.toBitVec.toInt % 18446744073709551616 = _
  have h := x.toBitVec.isLt
  rw [BitVec.toInt_eq_toNat_cond]
  split <;> omega
theorem own_ub (x : Int64) : 0 ≤ own_u x ∧ own_u x < 18446744073709551616 := by unfold own_u; omega
theorem own_uc (x : Int64) : ∃ t : Int, x.toInt = own_u x + 18446744073709551616 * t := ⟨x.toInt / 18446744073709551616, by unfold own_u; omega⟩
theorem own_mask_u (x : Int64) : own_u (x &&& 1095216660735) = own_u x % 256 + 4294967296 * (own_u x / 4294967296 % 256) := by
  rw [own_u_nat, own_u_nat]
  have e : (x &&& 1095216660735).toBitVec.toNat = x.toBitVec.toNat &&& 1095216660735 := by
    rw [Int64.toBitVec_and, BitVec.toNat_and]; rfl
  rw [e, own_natmask2]
  omega
theorem own_shr_u (x : Int64) (q : Int32) (k : Nat) (P : Int) (hk : q.toBitVec.toNat % 64 = k) (h0 : 0 < k) (hP : ((2 ^ k : Nat) : Int) = P) : own_u ((x.toUInt64 >>> (q &&& 0x3f).toInt64.toUInt64).toInt64) = own_u x / P := by
  have h := c_lushr x q k hk h0
  rw [hP] at h
  have hp : 0 < P := by rw [← hP]; exact Int.natCast_pos.mpr (Nat.two_pow_pos k)
  have hb := own_ub x
  have h1 : 0 ≤ own_u x / P := Int.ediv_nonneg hb.1 (by omega)
  have h2 : own_u x / P ≤ own_u x := Int.ediv_le_self _ hb.1
  unfold own_u at *
  rw [h]
  omega
set_option maxHeartbeats 8000000 in
theorem own_db_i {d : Int32} (p : Int32) (k : Nat) (P : Int) (hk : ((8 : Int32) * p).toBitVec.toNat % 64 = k) (hP : ((2 ^ k : Nat) : Int) = P) (hp : 0 < P ∧ P ≤ 72057594037927936) (hd : 0 ≤ d.toInt ∧ d.toInt ≤ 9) : (own_db d p).toInt = (48 + d.toInt) * P := by
  have h : ((own_db d p).toInt - (((48 : Int32) + d).toInt64).toInt * (2 ^ k : Nat)) % 18446744073709551616 = 0 := c_lshl (((48 : Int32) + d).toInt64) ((8 : Int32) * p) k hk
  rw [hP, c_i2l] at h
  have c := c_iadd 48 d
  have e : (48 : Int32).toInt = 48 := by decide
  have r := rng32 (48 + d)
  have s : ((48 : Int32) + d).toInt = 48 + d.toInt := by omega
  rw [s] at h
  have m1 : 0 ≤ (48 + d.toInt) * P := Int.mul_nonneg (by omega) (by omega)
  have m2 : (48 + d.toInt) * P ≤ 57 * P := Int.mul_le_mul_of_nonneg_right (by omega) (by omega)
  have r2 := rng64 (own_db d p)
  generalize (48 + d.toInt) * P = z at *
  omega
theorem own_sel (x r M : Int64) : ((x &&& M) ||| (r &&& (M ^^^ (-1 : Int64)))) &&& M = x &&& M := by
  apply Int64.toBitVec_inj.mp
  simp only [Int64.toBitVec_and, Int64.toBitVec_or, Int64.toBitVec_xor]
  have e : (-1 : Int64).toBitVec = BitVec.allOnes 64 := by decide
  rw [e]
  apply BitVec.eq_of_getLsbD_eq
  intro i hi
  simp only [BitVec.getLsbD_and, BitVec.getLsbD_or, BitVec.getLsbD_xor, BitVec.getLsbD_allOnes, hi, decide_true]
  cases x.toBitVec.getLsbD i <;> cases r.toBitVec.getLsbD i <;> cases M.toBitVec.getLsbD i <;> rfl
theorem own_all (x : Int64) : x &&& (-1 : Int64) = x := by
  apply Int64.toBitVec_inj.mp
  rw [Int64.toBitVec_and]
  have e : (-1 : Int64).toBitVec = BitVec.allOnes 64 := by decide
  rw [e]
  apply BitVec.eq_of_getLsbD_eq
  intro i hi
  simp only [BitVec.getLsbD_and, BitVec.getLsbD_allOnes, hi, decide_true, Bool.and_true]
theorem own_low (x r M : Int64) (k : Nat) (P : Int) (hk : k ≤ 63) (hm : M.toBitVec.toNat = 2 ^ k - 1) (hP : ((2 ^ k : Nat) : Int) = P) : ((x &&& M) ||| (r &&& (M ^^^ (-1 : Int64)))).toInt % P = x.toInt % P := by
  have h := congrArg Int64.toInt (own_sel x r M)
  rw [c_maskL _ M k hk hm, c_maskL x M k hk hm, hP] at h
  exact h
theorem own_low8 (x r : Int64) : (x &&& (-1 : Int64)) ||| (r &&& ((-1 : Int64) ^^^ (-1 : Int64))) = x := by
  have h := own_sel x r (-1)
  rw [own_all, own_all] at h
  rw [own_all]
  exact h
theorem own_r8 {x i : Int32} (h : i = (x &&& (7 : Int32)) + (1 : Int32)) : i = 1 ∨ i = 2 ∨ i = 3 ∨ i = 4 ∨ i = 5 ∨ i = 6 ∨ i = 7 ∨ i = 8 := by
  have e := c_mask x 7 3 (by decide) (by decide)
  have e2 : ((2 ^ 3 : Nat) : Int) = 8 := by decide
  rw [e2] at e
  have h0 : 0 ≤ (x &&& 7).toInt ∧ (x &&& 7).toInt < 8 := by omega
  have t : ∀ k : Fin 8, (Int32.ofNat k.1 + 1 = 1 ∨ Int32.ofNat k.1 + 1 = 2 ∨ Int32.ofNat k.1 + 1 = 3 ∨ Int32.ofNat k.1 + 1 = 4 ∨ Int32.ofNat k.1 + 1 = 5 ∨ Int32.ofNat k.1 + 1 = 6 ∨ Int32.ofNat k.1 + 1 = 7 ∨ Int32.ofNat k.1 + 1 = 8) := by decide +kernel
  have q := t ⟨(x &&& 7).toInt.toNat, by omega⟩
  rw [h]
  rwa [← own_ofNat h0.1] at q
set_option maxHeartbeats 8000000 in
theorem own_four {x h : Int32} (hh : h = (x &&& (2147483647 : Int32)) % (10000 : Int32)) : ∃ A B C D : Int, (0 ≤ A ∧ A ≤ 9) ∧ (0 ≤ B ∧ B ≤ 9) ∧ (0 ≤ C ∧ C ≤ 9) ∧ (0 ≤ D ∧ D ≤ 9) ∧
    (h / (1000 : Int32)).toInt = A ∧ ((h / (100 : Int32)) % (10 : Int32)).toInt = B ∧ ((h / (10 : Int32)) % (10 : Int32)).toInt = C ∧ (h % (10 : Int32)).toInt = D ∧ h.toInt = 1000 * A + 100 * B + 10 * C + D := by
  obtain ⟨-, h1, h2⟩ := own_pm x (y := 10000) (d := 10000) (by decide) (by decide)
  rw [← hh] at h1 h2
  have q1 := (c_idiv h 1000 1000 (by decide) (by decide)).1 h1
  have q2 := (c_idiv h 100 100 (by decide) (by decide)).1 h1
  have q3 := (c_idiv h 10 10 (by decide) (by decide)).1 h1
  have q4 := (c_irem h 10 10 (by decide)).1 h1
  have q5 := (c_irem (h / 100) 10 10 (by decide)).1 (by omega)
  have q6 := (c_irem (h / 10) 10 10 (by decide)).1 (by omega)
  rw [q2] at q5
  rw [q3] at q6
  exact ⟨h.toInt / 1000, h.toInt / 100 % 10, h.toInt / 10 % 10, h.toInt % 10, by omega, by omega, by omega, by omega, q1, q5, q6, q4, by omega⟩
set_option maxHeartbeats 8000000 in
theorem own_dig {d0 d1 d2 d3 d4 d5 d6 d7 : Int32} (b0 : 0 ≤ d0.toInt ∧ d0.toInt ≤ 9) (b1 : 0 ≤ d1.toInt ∧ d1.toInt ≤ 9) (b2 : 0 ≤ d2.toInt ∧ d2.toInt ≤ 9) (b3 : 0 ≤ d3.toInt ∧ d3.toInt ≤ 9) (b4 : 0 ≤ d4.toInt ∧ d4.toInt ≤ 9) (b5 : 0 ≤ d5.toInt ∧ d5.toInt ≤ 9) (b6 : 0 ≤ d6.toInt ∧ d6.toInt ≤ 9) (b7 : 0 ≤ d7.toInt ∧ d7.toInt ≤ 9) :
    (((((((own_db d0 (0 : Int32) ||| own_db d1 (1 : Int32)) ||| own_db d2 (2 : Int32)) ||| own_db d3 (3 : Int32)) ||| own_db d4 (4 : Int32)) ||| own_db d5 (5 : Int32)) ||| own_db d6 (6 : Int32)) ||| own_db d7 (7 : Int32)).toInt = (48 + d0.toInt) * 1 + (48 + d1.toInt) * 256 + (48 + d2.toInt) * 65536 + (48 + d3.toInt) * 16777216 + (48 + d4.toInt) * 4294967296 + (48 + d5.toInt) * 1099511627776 + (48 + d6.toInt) * 281474976710656 + (48 + d7.toInt) * 72057594037927936 := by
  have z0 := own_db_i (0 : Int32) 0 1 (by decide) (by decide) (by decide) b0
  have z1 := own_db_i (1 : Int32) 8 256 (by decide) (by decide) (by decide) b1
  have z2 := own_db_i (2 : Int32) 16 65536 (by decide) (by decide) (by decide) b2
  have z3 := own_db_i (3 : Int32) 24 16777216 (by decide) (by decide) (by decide) b3
  have z4 := own_db_i (4 : Int32) 32 4294967296 (by decide) (by decide) (by decide) b4
  have z5 := own_db_i (5 : Int32) 40 1099511627776 (by decide) (by decide) (by decide) b5
  have z6 := own_db_i (6 : Int32) 48 281474976710656 (by decide) (by decide) (by decide) b6
  have z7 := own_db_i (7 : Int32) 56 72057594037927936 (by decide) (by decide) (by decide) b7
  generalize own_db d0 (0 : Int32) = y0 at *
  generalize own_db d1 (1 : Int32) = y1 at *
  generalize own_db d2 (2 : Int32) = y2 at *
  generalize own_db d3 (3 : Int32) = y3 at *
  generalize own_db d4 (4 : Int32) = y4 at *
  generalize own_db d5 (5 : Int32) = y5 at *
  generalize own_db d6 (6 : Int32) = y6 at *
  generalize own_db d7 (7 : Int32) = y7 at *
  have o1 := c_orL' y0 y1 8 (by decide) 256 (by decide) (by omega) (by omega) (by omega)
  have r1 := rng64 (y0 ||| y1)
  have t1 : (y0 ||| y1).toInt = (48 + d0.toInt) * 1 + (48 + d1.toInt) * 256 := by omega
  generalize y0 ||| y1 = x1 at *
  have o2 := c_orL' x1 y2 16 (by decide) 65536 (by decide) (by omega) (by omega) (by omega)
  have r2 := rng64 (x1 ||| y2)
  have t2 : (x1 ||| y2).toInt = (48 + d0.toInt) * 1 + (48 + d1.toInt) * 256 + (48 + d2.toInt) * 65536 := by omega
  generalize x1 ||| y2 = x2 at *
  have o3 := c_orL' x2 y3 24 (by decide) 16777216 (by decide) (by omega) (by omega) (by omega)
  have r3 := rng64 (x2 ||| y3)
  have t3 : (x2 ||| y3).toInt = (48 + d0.toInt) * 1 + (48 + d1.toInt) * 256 + (48 + d2.toInt) * 65536 + (48 + d3.toInt) * 16777216 := by omega
  generalize x2 ||| y3 = x3 at *
  have o4 := c_orL' x3 y4 32 (by decide) 4294967296 (by decide) (by omega) (by omega) (by omega)
  have r4 := rng64 (x3 ||| y4)
  have t4 : (x3 ||| y4).toInt = (48 + d0.toInt) * 1 + (48 + d1.toInt) * 256 + (48 + d2.toInt) * 65536 + (48 + d3.toInt) * 16777216 + (48 + d4.toInt) * 4294967296 := by omega
  generalize x3 ||| y4 = x4 at *
  have o5 := c_orL' x4 y5 40 (by decide) 1099511627776 (by decide) (by omega) (by omega) (by omega)
  have r5 := rng64 (x4 ||| y5)
  have t5 : (x4 ||| y5).toInt = (48 + d0.toInt) * 1 + (48 + d1.toInt) * 256 + (48 + d2.toInt) * 65536 + (48 + d3.toInt) * 16777216 + (48 + d4.toInt) * 4294967296 + (48 + d5.toInt) * 1099511627776 := by omega
  generalize x4 ||| y5 = x5 at *
  have o6 := c_orL' x5 y6 48 (by decide) 281474976710656 (by decide) (by omega) (by omega) (by omega)
  have r6 := rng64 (x5 ||| y6)
  have t6 : (x5 ||| y6).toInt = (48 + d0.toInt) * 1 + (48 + d1.toInt) * 256 + (48 + d2.toInt) * 65536 + (48 + d3.toInt) * 16777216 + (48 + d4.toInt) * 4294967296 + (48 + d5.toInt) * 1099511627776 + (48 + d6.toInt) * 281474976710656 := by omega
  generalize x5 ||| y6 = x6 at *
  have o7 := c_orL' x6 y7 56 (by decide) 72057594037927936 (by decide) (by omega) (by omega) (by omega)
  have r7 := rng64 (x6 ||| y7)
  have t7 : (x6 ||| y7).toInt = (48 + d0.toInt) * 1 + (48 + d1.toInt) * 256 + (48 + d2.toInt) * 65536 + (48 + d3.toInt) * 16777216 + (48 + d4.toInt) * 4294967296 + (48 + d5.toInt) * 1099511627776 + (48 + d6.toInt) * 281474976710656 + (48 + d7.toInt) * 72057594037927936 := by omega
  generalize x6 ||| y7 = x7 at *
  exact t7
def own_n (w : Int64) (c : Int32) : Int64 := (w - (3472328296227680304 : Int64)) <<< (((8 : Int32) * ((8 : Int32) - c)) &&& 0x3f).toInt64
def own_pairs (n : Int64) : Int64 := (n * (10 : Int64)) + ((n.toUInt64 >>> ((8 : Int32) &&& 0x3f).toInt64.toUInt64).toInt64)
def own_fin (q : Int64) : Int32 := ((((((q &&& (1095216660735 : Int64)) * (4294967296000100 : Int64)) + ((((q.toUInt64 >>> ((16 : Int32) &&& 0x3f).toInt64.toUInt64).toInt64) &&& (1095216660735 : Int64)) * (42949672960001 : Int64))).toUInt64 >>> ((32 : Int32) &&& 0x3f).toInt64.toUInt64).toInt64).toInt32)
theorem own_dec_eq (w : Int64) (c : Int32) : own_dec w c = own_fin (own_pairs (own_n w c)) := rfl
set_option maxHeartbeats 8000000 in
theorem own_pairs_u {n : Int64} {e0 e1 e2 e3 e4 e5 e6 e7 : Int} (b0 : 0 ≤ e0 ∧ e0 ≤ 9) (b1 : 0 ≤ e1 ∧ e1 ≤ 9) (b2 : 0 ≤ e2 ∧ e2 ≤ 9) (b3 : 0 ≤ e3 ∧ e3 ≤ 9) (b4 : 0 ≤ e4 ∧ e4 ≤ 9) (b5 : 0 ≤ e5 ∧ e5 ≤ 9) (b6 : 0 ≤ e6 ∧ e6 ≤ 9) (b7 : 0 ≤ e7 ∧ e7 ≤ 9) (hn : own_u n = 1 * e0 + 256 * e1 + 65536 * e2 + 16777216 * e3 + 4294967296 * e4 + 1099511627776 * e5 + 281474976710656 * e6 + 72057594037927936 * e7) : own_u (own_pairs n) = 1 * (10 * e0 + e1) + 256 * (10 * e1 + e2) + 65536 * (10 * e2 + e3) + 16777216 * (10 * e3 + e4) + 4294967296 * (10 * e4 + e5) + 1099511627776 * (10 * e5 + e6) + 281474976710656 * (10 * e6 + e7) + 72057594037927936 * (10 * e7) := by
  have s1 := own_shr_u n 8 8 256 (by decide) (by decide) (by decide)
  have m := c_lmul n 10
  have e10 : (10 : Int64).toInt = 10 := by decide
  rw [e10] at m
  obtain ⟨t, ht⟩ := own_uc n
  have a := c_ladd (n * 10) ((n.toUInt64 >>> ((8 : Int32) &&& 0x3f).toInt64.toUInt64).toInt64)
  obtain ⟨t2, ht2⟩ := own_uc ((n.toUInt64 >>> ((8 : Int32) &&& 0x3f).toInt64.toUInt64).toInt64)
  have s2 : own_u ((n.toUInt64 >>> ((8 : Int32) &&& 0x3f).toInt64.toUInt64).toInt64) = 1 * e1 + 256 * e2 + 65536 * e3 + 16777216 * e4 + 4294967296 * e5 + 1099511627776 * e6 + 281474976710656 * e7 := by rw [s1, hn]; omega
  clear s1
  show (n * 10 + ((n.toUInt64 >>> ((8 : Int32) &&& 0x3f).toInt64.toUInt64).toInt64)).toInt % 18446744073709551616 = _
  generalize (n.toUInt64 >>> ((8 : Int32) &&& 0x3f).toInt64.toUInt64).toInt64 = z at *
  generalize own_u z = uz at *
  generalize own_u n = un at *
  generalize n * 10 + z = y at *
  generalize n * 10 = y2 at *
  omega
set_option maxHeartbeats 8000000 in
theorem own_fin_u {q : Int64} {p0 p1 p2 p3 p4 p5 p6 p7 : Int} (c0 : 0 ≤ p0 ∧ p0 ≤ 99) (c1 : 0 ≤ p1 ∧ p1 ≤ 99) (c2 : 0 ≤ p2 ∧ p2 ≤ 99) (c3 : 0 ≤ p3 ∧ p3 ≤ 99) (c4 : 0 ≤ p4 ∧ p4 ≤ 99) (c5 : 0 ≤ p5 ∧ p5 ≤ 99) (c6 : 0 ≤ p6 ∧ p6 ≤ 99) (c7 : 0 ≤ p7 ∧ p7 ≤ 99) (hq : own_u q = 1 * p0 + 256 * p1 + 65536 * p2 + 16777216 * p3 + 4294967296 * p4 + 1099511627776 * p5 + 281474976710656 * p6 + 72057594037927936 * p7) : (own_fin q).toInt = 1000000 * p0 + 10000 * p2 + 100 * p4 + p6 := by
  have s1 := own_shr_u q 16 16 65536 (by decide) (by decide) (by decide)
  have m1 := own_mask_u q
  have m2 := own_mask_u ((q.toUInt64 >>> ((16 : Int32) &&& 0x3f).toInt64.toUInt64).toInt64)
  rw [s1] at m2
  have w1 : own_u q % 256 = p0 := by rw [hq]; omega
  have w2 : own_u q / 4294967296 % 256 = p4 := by rw [hq]; omega
  have w3 : own_u q / 65536 % 256 = p2 := by rw [hq]; omega
  have w4 : own_u q / 65536 / 4294967296 % 256 = p6 := by rw [hq]; omega
  rw [w1, w2] at m1
  rw [w3, w4] at m2
  clear s1 w1 w2 w3 w4 hq
  show (((((q &&& (1095216660735 : Int64)) * (4294967296000100 : Int64)) + ((((q.toUInt64 >>> ((16 : Int32) &&& 0x3f).toInt64.toUInt64).toInt64) &&& (1095216660735 : Int64)) * (42949672960001 : Int64))).toUInt64 >>> ((32 : Int32) &&& 0x3f).toInt64.toUInt64).toInt64).toInt32.toInt = _
  generalize ((q.toUInt64 >>> ((16 : Int32) &&& 0x3f).toInt64.toUInt64).toInt64) &&& (1095216660735 : Int64) = y at *
  generalize q &&& (1095216660735 : Int64) = x at *
  obtain ⟨t1, h1⟩ := own_uc x
  obtain ⟨t2, h2⟩ := own_uc y
  have l1 := c_lmul x 4294967296000100
  have l2 := c_lmul y 42949672960001
  have k1 : (4294967296000100 : Int64).toInt = 4294967296000100 := by decide
  have k2 : (42949672960001 : Int64).toInt = 42949672960001 := by decide
  rw [k1] at l1
  rw [k2] at l2
  rw [m1] at h1
  rw [m2] at h2
  have a := c_ladd (x * 4294967296000100) (y * 42949672960001)
  generalize x * (4294967296000100 : Int64) = u at *
  generalize y * (42949672960001 : Int64) = v at *
  have hs : own_u (u + v) = (100 * p0 + p2) + 4294967296 * (1000000 * p0 + 10000 * p2 + 100 * p4 + p6) := by
    unfold own_u
    generalize u + v = w at *
    omega
  have f := c_lushr (u + v) 32 32 (by decide) (by decide)
  have k3 : ((2 ^ 32 : Nat) : Int) = 4294967296 := by decide
  rw [k3] at f
  change _ = own_u (u + v) / _ at f
  rw [hs] at f
  generalize ((u + v).toUInt64 >>> ((32 : Int32) &&& 0x3f).toInt64.toUInt64).toInt64 = g at *
  have c := c_l2i g
  have rr := rng32 g.toInt32
  clear l1 l2 h1 h2 m1 m2 a hs
  have hg : g.toInt = 1000000 * p0 + 10000 * p2 + 100 * p4 + p6 := by rw [f]; omega
  clear f
  omega
set_option maxHeartbeats 8000000 in
theorem own_swar {n : Int64} {e0 e1 e2 e3 e4 e5 e6 e7 : Int} (b0 : 0 ≤ e0 ∧ e0 ≤ 9) (b1 : 0 ≤ e1 ∧ e1 ≤ 9) (b2 : 0 ≤ e2 ∧ e2 ≤ 9) (b3 : 0 ≤ e3 ∧ e3 ≤ 9) (b4 : 0 ≤ e4 ∧ e4 ≤ 9) (b5 : 0 ≤ e5 ∧ e5 ≤ 9) (b6 : 0 ≤ e6 ∧ e6 ≤ 9) (b7 : 0 ≤ e7 ∧ e7 ≤ 9) (hn : own_u n = 1 * e0 + 256 * e1 + 65536 * e2 + 16777216 * e3 + 4294967296 * e4 + 1099511627776 * e5 + 281474976710656 * e6 + 72057594037927936 * e7) : (own_fin (own_pairs n)).toInt = 10000000 * e0 + 1000000 * e1 + 100000 * e2 + 10000 * e3 + 1000 * e4 + 100 * e5 + 10 * e6 + 1 * e7 := by
  have h := own_fin_u (q := own_pairs n) (p0 := (10 * e0 + e1)) (p1 := (10 * e1 + e2)) (p2 := (10 * e2 + e3)) (p3 := (10 * e3 + e4)) (p4 := (10 * e4 + e5)) (p5 := (10 * e5 + e6)) (p6 := (10 * e6 + e7)) (p7 := (10 * e7)) (by omega) (by omega) (by omega) (by omega) (by omega) (by omega) (by omega) (by omega) (own_pairs_u b0 b1 b2 b3 b4 b5 b6 b7 hn)
  rw [h]
  omega
set_option maxHeartbeats 8000000 in
theorem own_main_1 {a b hi lo : Int32} {r D W : Int64} (hh : hi = (a &&& (2147483647 : Int32)) % (10000 : Int32)) (hl : lo = (b &&& (2147483647 : Int32)) % (10000 : Int32)) (hD : D = (((((((own_db (hi / (1000 : Int32)) (0 : Int32) ||| own_db ((hi / (100 : Int32)) % (10 : Int32)) (1 : Int32)) ||| own_db ((hi / (10 : Int32)) % (10 : Int32)) (2 : Int32)) ||| own_db (hi % (10 : Int32)) (3 : Int32)) ||| own_db (lo / (1000 : Int32)) (4 : Int32)) ||| own_db ((lo / (100 : Int32)) % (10 : Int32)) (5 : Int32)) ||| own_db ((lo / (10 : Int32)) % (10 : Int32)) (6 : Int32)) ||| own_db (lo % (10 : Int32)) (7 : Int32))) (hW : W = ((D &&& (((1 : Int64) <<< (((8 : Int32) * (1 : Int32)) &&& 0x3f).toInt64) - (1 : Int64))) ||| (r &&& ((((1 : Int64) <<< (((8 : Int32) * (1 : Int32)) &&& 0x3f).toInt64) - (1 : Int64)) ^^^ (-1 : Int64))))) : own_dec W (1 : Int32) = ((hi * (10000 : Int32)) + lo) / (10000000 : Int32) := by
  obtain ⟨A1, A2, A3, A4, b1, b2, b3, b4, q1, q2, q3, q4, sh⟩ := own_four hh
  obtain ⟨A5, A6, A7, A8, b5, b6, b7, b8, q5, q6, q7, q8, sl⟩ := own_four hl
  have hd := own_dig (d0 := (hi / (1000 : Int32))) (d1 := ((hi / (100 : Int32)) % (10 : Int32))) (d2 := ((hi / (10 : Int32)) % (10 : Int32))) (d3 := (hi % (10 : Int32))) (d4 := (lo / (1000 : Int32))) (d5 := ((lo / (100 : Int32)) % (10 : Int32))) (d6 := ((lo / (10 : Int32)) % (10 : Int32))) (d7 := (lo % (10 : Int32))) (by rw [q1]; exact b1) (by rw [q2]; exact b2) (by rw [q3]; exact b3) (by rw [q4]; exact b4) (by rw [q5]; exact b5) (by rw [q6]; exact b6) (by rw [q7]; exact b7) (by rw [q8]; exact b8)
  rw [← hD, q1, q2, q3, q4, q5, q6, q7, q8] at hd
  have hw : W.toInt % 256 = D.toInt % 256 := by rw [hW]; exact own_low D r _ 8 256 (by decide) (by decide) (by decide)
  rw [hd] at hw
  have c1 := c_lsub W 3472328296227680304
  have z : (3472328296227680304 : Int64).toInt = 3472328296227680304 := by decide
  rw [z] at c1
  have c2 := c_lshl (W - 3472328296227680304) ((8 : Int32) * ((8 : Int32) - (1 : Int32))) 56 (by decide)
  have z2 : ((2 ^ 56 : Nat) : Int) = 72057594037927936 := by decide
  rw [z2] at c2
  have hn : own_u (own_n W (1 : Int32)) = 1 * 0 + 256 * 0 + 65536 * 0 + 16777216 * 0 + 4294967296 * 0 + 1099511627776 * 0 + 281474976710656 * 0 + 72057594037927936 * A1 := by
    show ((W - (3472328296227680304 : Int64)) <<< (((8 : Int32) * ((8 : Int32) - (1 : Int32))) &&& 0x3f).toInt64).toInt % 18446744073709551616 = _
    generalize (W - (3472328296227680304 : Int64)) <<< (((8 : Int32) * ((8 : Int32) - (1 : Int32))) &&& 0x3f).toInt64 = y at *
    generalize W - (3472328296227680304 : Int64) = x at *
    clear hd hD hW q1 q2 q3 q4 q5 q6 q7 q8 sh sl
    omega
  have hs := own_swar (by decide) (by decide) (by decide) (by decide) (by decide) (by decide) (by decide) b1 hn
  apply Int32.toInt_inj.mp
  rw [own_dec_eq, hs]
  have m := c_imul hi 10000
  have z3 : (10000 : Int32).toInt = 10000 := by decide
  rw [z3] at m
  have ad := c_iadd (hi * 10000) lo
  have r1 := rng32 (hi * 10000)
  have r2 := rng32 (hi * 10000 + lo)
  clear hd hD hW hw c1 c2 hn hs q1 q2 q3 q4 q5 q6 q7 q8 hh hl
  have v : (hi * 10000 + lo).toInt = 10000 * hi.toInt + lo.toInt := by omega
  have dv := (c_idiv (hi * 10000 + lo) 10000000 10000000 (by decide) (by decide)).1 (by omega)
  rw [dv, v, sh, sl]
  clear m ad r1 r2 v dv
  omega
set_option maxHeartbeats 8000000 in
theorem own_main_2 {a b hi lo : Int32} {r D W : Int64} (hh : hi = (a &&& (2147483647 : Int32)) % (10000 : Int32)) (hl : lo = (b &&& (2147483647 : Int32)) % (10000 : Int32)) (hD : D = (((((((own_db (hi / (1000 : Int32)) (0 : Int32) ||| own_db ((hi / (100 : Int32)) % (10 : Int32)) (1 : Int32)) ||| own_db ((hi / (10 : Int32)) % (10 : Int32)) (2 : Int32)) ||| own_db (hi % (10 : Int32)) (3 : Int32)) ||| own_db (lo / (1000 : Int32)) (4 : Int32)) ||| own_db ((lo / (100 : Int32)) % (10 : Int32)) (5 : Int32)) ||| own_db ((lo / (10 : Int32)) % (10 : Int32)) (6 : Int32)) ||| own_db (lo % (10 : Int32)) (7 : Int32))) (hW : W = ((D &&& (((1 : Int64) <<< (((8 : Int32) * (2 : Int32)) &&& 0x3f).toInt64) - (1 : Int64))) ||| (r &&& ((((1 : Int64) <<< (((8 : Int32) * (2 : Int32)) &&& 0x3f).toInt64) - (1 : Int64)) ^^^ (-1 : Int64))))) : own_dec W (2 : Int32) = ((hi * (10000 : Int32)) + lo) / (1000000 : Int32) := by
  obtain ⟨A1, A2, A3, A4, b1, b2, b3, b4, q1, q2, q3, q4, sh⟩ := own_four hh
  obtain ⟨A5, A6, A7, A8, b5, b6, b7, b8, q5, q6, q7, q8, sl⟩ := own_four hl
  have hd := own_dig (d0 := (hi / (1000 : Int32))) (d1 := ((hi / (100 : Int32)) % (10 : Int32))) (d2 := ((hi / (10 : Int32)) % (10 : Int32))) (d3 := (hi % (10 : Int32))) (d4 := (lo / (1000 : Int32))) (d5 := ((lo / (100 : Int32)) % (10 : Int32))) (d6 := ((lo / (10 : Int32)) % (10 : Int32))) (d7 := (lo % (10 : Int32))) (by rw [q1]; exact b1) (by rw [q2]; exact b2) (by rw [q3]; exact b3) (by rw [q4]; exact b4) (by rw [q5]; exact b5) (by rw [q6]; exact b6) (by rw [q7]; exact b7) (by rw [q8]; exact b8)
  rw [← hD, q1, q2, q3, q4, q5, q6, q7, q8] at hd
  have hw : W.toInt % 65536 = D.toInt % 65536 := by rw [hW]; exact own_low D r _ 16 65536 (by decide) (by decide) (by decide)
  rw [hd] at hw
  have c1 := c_lsub W 3472328296227680304
  have z : (3472328296227680304 : Int64).toInt = 3472328296227680304 := by decide
  rw [z] at c1
  have c2 := c_lshl (W - 3472328296227680304) ((8 : Int32) * ((8 : Int32) - (2 : Int32))) 48 (by decide)
  have z2 : ((2 ^ 48 : Nat) : Int) = 281474976710656 := by decide
  rw [z2] at c2
  have hn : own_u (own_n W (2 : Int32)) = 1 * 0 + 256 * 0 + 65536 * 0 + 16777216 * 0 + 4294967296 * 0 + 1099511627776 * 0 + 281474976710656 * A1 + 72057594037927936 * A2 := by
    show ((W - (3472328296227680304 : Int64)) <<< (((8 : Int32) * ((8 : Int32) - (2 : Int32))) &&& 0x3f).toInt64).toInt % 18446744073709551616 = _
    generalize (W - (3472328296227680304 : Int64)) <<< (((8 : Int32) * ((8 : Int32) - (2 : Int32))) &&& 0x3f).toInt64 = y at *
    generalize W - (3472328296227680304 : Int64) = x at *
    clear hd hD hW q1 q2 q3 q4 q5 q6 q7 q8 sh sl
    omega
  have hs := own_swar (by decide) (by decide) (by decide) (by decide) (by decide) (by decide) b1 b2 hn
  apply Int32.toInt_inj.mp
  rw [own_dec_eq, hs]
  have m := c_imul hi 10000
  have z3 : (10000 : Int32).toInt = 10000 := by decide
  rw [z3] at m
  have ad := c_iadd (hi * 10000) lo
  have r1 := rng32 (hi * 10000)
  have r2 := rng32 (hi * 10000 + lo)
  clear hd hD hW hw c1 c2 hn hs q1 q2 q3 q4 q5 q6 q7 q8 hh hl
  have v : (hi * 10000 + lo).toInt = 10000 * hi.toInt + lo.toInt := by omega
  have dv := (c_idiv (hi * 10000 + lo) 1000000 1000000 (by decide) (by decide)).1 (by omega)
  rw [dv, v, sh, sl]
  clear m ad r1 r2 v dv
  omega
set_option maxHeartbeats 8000000 in
theorem own_main_3 {a b hi lo : Int32} {r D W : Int64} (hh : hi = (a &&& (2147483647 : Int32)) % (10000 : Int32)) (hl : lo = (b &&& (2147483647 : Int32)) % (10000 : Int32)) (hD : D = (((((((own_db (hi / (1000 : Int32)) (0 : Int32) ||| own_db ((hi / (100 : Int32)) % (10 : Int32)) (1 : Int32)) ||| own_db ((hi / (10 : Int32)) % (10 : Int32)) (2 : Int32)) ||| own_db (hi % (10 : Int32)) (3 : Int32)) ||| own_db (lo / (1000 : Int32)) (4 : Int32)) ||| own_db ((lo / (100 : Int32)) % (10 : Int32)) (5 : Int32)) ||| own_db ((lo / (10 : Int32)) % (10 : Int32)) (6 : Int32)) ||| own_db (lo % (10 : Int32)) (7 : Int32))) (hW : W = ((D &&& (((1 : Int64) <<< (((8 : Int32) * (3 : Int32)) &&& 0x3f).toInt64) - (1 : Int64))) ||| (r &&& ((((1 : Int64) <<< (((8 : Int32) * (3 : Int32)) &&& 0x3f).toInt64) - (1 : Int64)) ^^^ (-1 : Int64))))) : own_dec W (3 : Int32) = ((hi * (10000 : Int32)) + lo) / (100000 : Int32) := by
  obtain ⟨A1, A2, A3, A4, b1, b2, b3, b4, q1, q2, q3, q4, sh⟩ := own_four hh
  obtain ⟨A5, A6, A7, A8, b5, b6, b7, b8, q5, q6, q7, q8, sl⟩ := own_four hl
  have hd := own_dig (d0 := (hi / (1000 : Int32))) (d1 := ((hi / (100 : Int32)) % (10 : Int32))) (d2 := ((hi / (10 : Int32)) % (10 : Int32))) (d3 := (hi % (10 : Int32))) (d4 := (lo / (1000 : Int32))) (d5 := ((lo / (100 : Int32)) % (10 : Int32))) (d6 := ((lo / (10 : Int32)) % (10 : Int32))) (d7 := (lo % (10 : Int32))) (by rw [q1]; exact b1) (by rw [q2]; exact b2) (by rw [q3]; exact b3) (by rw [q4]; exact b4) (by rw [q5]; exact b5) (by rw [q6]; exact b6) (by rw [q7]; exact b7) (by rw [q8]; exact b8)
  rw [← hD, q1, q2, q3, q4, q5, q6, q7, q8] at hd
  have hw : W.toInt % 16777216 = D.toInt % 16777216 := by rw [hW]; exact own_low D r _ 24 16777216 (by decide) (by decide) (by decide)
  rw [hd] at hw
  have c1 := c_lsub W 3472328296227680304
  have z : (3472328296227680304 : Int64).toInt = 3472328296227680304 := by decide
  rw [z] at c1
  have c2 := c_lshl (W - 3472328296227680304) ((8 : Int32) * ((8 : Int32) - (3 : Int32))) 40 (by decide)
  have z2 : ((2 ^ 40 : Nat) : Int) = 1099511627776 := by decide
  rw [z2] at c2
  have hn : own_u (own_n W (3 : Int32)) = 1 * 0 + 256 * 0 + 65536 * 0 + 16777216 * 0 + 4294967296 * 0 + 1099511627776 * A1 + 281474976710656 * A2 + 72057594037927936 * A3 := by
    show ((W - (3472328296227680304 : Int64)) <<< (((8 : Int32) * ((8 : Int32) - (3 : Int32))) &&& 0x3f).toInt64).toInt % 18446744073709551616 = _
    generalize (W - (3472328296227680304 : Int64)) <<< (((8 : Int32) * ((8 : Int32) - (3 : Int32))) &&& 0x3f).toInt64 = y at *
    generalize W - (3472328296227680304 : Int64) = x at *
    clear hd hD hW q1 q2 q3 q4 q5 q6 q7 q8 sh sl
    omega
  have hs := own_swar (by decide) (by decide) (by decide) (by decide) (by decide) b1 b2 b3 hn
  apply Int32.toInt_inj.mp
  rw [own_dec_eq, hs]
  have m := c_imul hi 10000
  have z3 : (10000 : Int32).toInt = 10000 := by decide
  rw [z3] at m
  have ad := c_iadd (hi * 10000) lo
  have r1 := rng32 (hi * 10000)
  have r2 := rng32 (hi * 10000 + lo)
  clear hd hD hW hw c1 c2 hn hs q1 q2 q3 q4 q5 q6 q7 q8 hh hl
  have v : (hi * 10000 + lo).toInt = 10000 * hi.toInt + lo.toInt := by omega
  have dv := (c_idiv (hi * 10000 + lo) 100000 100000 (by decide) (by decide)).1 (by omega)
  rw [dv, v, sh, sl]
  clear m ad r1 r2 v dv
  omega
set_option maxHeartbeats 8000000 in
theorem own_main_4 {a b hi lo : Int32} {r D W : Int64} (hh : hi = (a &&& (2147483647 : Int32)) % (10000 : Int32)) (hl : lo = (b &&& (2147483647 : Int32)) % (10000 : Int32)) (hD : D = (((((((own_db (hi / (1000 : Int32)) (0 : Int32) ||| own_db ((hi / (100 : Int32)) % (10 : Int32)) (1 : Int32)) ||| own_db ((hi / (10 : Int32)) % (10 : Int32)) (2 : Int32)) ||| own_db (hi % (10 : Int32)) (3 : Int32)) ||| own_db (lo / (1000 : Int32)) (4 : Int32)) ||| own_db ((lo / (100 : Int32)) % (10 : Int32)) (5 : Int32)) ||| own_db ((lo / (10 : Int32)) % (10 : Int32)) (6 : Int32)) ||| own_db (lo % (10 : Int32)) (7 : Int32))) (hW : W = ((D &&& (((1 : Int64) <<< (((8 : Int32) * (4 : Int32)) &&& 0x3f).toInt64) - (1 : Int64))) ||| (r &&& ((((1 : Int64) <<< (((8 : Int32) * (4 : Int32)) &&& 0x3f).toInt64) - (1 : Int64)) ^^^ (-1 : Int64))))) : own_dec W (4 : Int32) = ((hi * (10000 : Int32)) + lo) / (10000 : Int32) := by
  obtain ⟨A1, A2, A3, A4, b1, b2, b3, b4, q1, q2, q3, q4, sh⟩ := own_four hh
  obtain ⟨A5, A6, A7, A8, b5, b6, b7, b8, q5, q6, q7, q8, sl⟩ := own_four hl
  have hd := own_dig (d0 := (hi / (1000 : Int32))) (d1 := ((hi / (100 : Int32)) % (10 : Int32))) (d2 := ((hi / (10 : Int32)) % (10 : Int32))) (d3 := (hi % (10 : Int32))) (d4 := (lo / (1000 : Int32))) (d5 := ((lo / (100 : Int32)) % (10 : Int32))) (d6 := ((lo / (10 : Int32)) % (10 : Int32))) (d7 := (lo % (10 : Int32))) (by rw [q1]; exact b1) (by rw [q2]; exact b2) (by rw [q3]; exact b3) (by rw [q4]; exact b4) (by rw [q5]; exact b5) (by rw [q6]; exact b6) (by rw [q7]; exact b7) (by rw [q8]; exact b8)
  rw [← hD, q1, q2, q3, q4, q5, q6, q7, q8] at hd
  have hw : W.toInt % 4294967296 = D.toInt % 4294967296 := by rw [hW]; exact own_low D r _ 32 4294967296 (by decide) (by decide) (by decide)
  rw [hd] at hw
  have c1 := c_lsub W 3472328296227680304
  have z : (3472328296227680304 : Int64).toInt = 3472328296227680304 := by decide
  rw [z] at c1
  have c2 := c_lshl (W - 3472328296227680304) ((8 : Int32) * ((8 : Int32) - (4 : Int32))) 32 (by decide)
  have z2 : ((2 ^ 32 : Nat) : Int) = 4294967296 := by decide
  rw [z2] at c2
  have hn : own_u (own_n W (4 : Int32)) = 1 * 0 + 256 * 0 + 65536 * 0 + 16777216 * 0 + 4294967296 * A1 + 1099511627776 * A2 + 281474976710656 * A3 + 72057594037927936 * A4 := by
    show ((W - (3472328296227680304 : Int64)) <<< (((8 : Int32) * ((8 : Int32) - (4 : Int32))) &&& 0x3f).toInt64).toInt % 18446744073709551616 = _
    generalize (W - (3472328296227680304 : Int64)) <<< (((8 : Int32) * ((8 : Int32) - (4 : Int32))) &&& 0x3f).toInt64 = y at *
    generalize W - (3472328296227680304 : Int64) = x at *
    clear hd hD hW q1 q2 q3 q4 q5 q6 q7 q8 sh sl
    omega
  have hs := own_swar (by decide) (by decide) (by decide) (by decide) b1 b2 b3 b4 hn
  apply Int32.toInt_inj.mp
  rw [own_dec_eq, hs]
  have m := c_imul hi 10000
  have z3 : (10000 : Int32).toInt = 10000 := by decide
  rw [z3] at m
  have ad := c_iadd (hi * 10000) lo
  have r1 := rng32 (hi * 10000)
  have r2 := rng32 (hi * 10000 + lo)
  clear hd hD hW hw c1 c2 hn hs q1 q2 q3 q4 q5 q6 q7 q8 hh hl
  have v : (hi * 10000 + lo).toInt = 10000 * hi.toInt + lo.toInt := by omega
  have dv := (c_idiv (hi * 10000 + lo) 10000 10000 (by decide) (by decide)).1 (by omega)
  rw [dv, v, sh, sl]
  clear m ad r1 r2 v dv
  omega
set_option maxHeartbeats 8000000 in
theorem own_main_5 {a b hi lo : Int32} {r D W : Int64} (hh : hi = (a &&& (2147483647 : Int32)) % (10000 : Int32)) (hl : lo = (b &&& (2147483647 : Int32)) % (10000 : Int32)) (hD : D = (((((((own_db (hi / (1000 : Int32)) (0 : Int32) ||| own_db ((hi / (100 : Int32)) % (10 : Int32)) (1 : Int32)) ||| own_db ((hi / (10 : Int32)) % (10 : Int32)) (2 : Int32)) ||| own_db (hi % (10 : Int32)) (3 : Int32)) ||| own_db (lo / (1000 : Int32)) (4 : Int32)) ||| own_db ((lo / (100 : Int32)) % (10 : Int32)) (5 : Int32)) ||| own_db ((lo / (10 : Int32)) % (10 : Int32)) (6 : Int32)) ||| own_db (lo % (10 : Int32)) (7 : Int32))) (hW : W = ((D &&& (((1 : Int64) <<< (((8 : Int32) * (5 : Int32)) &&& 0x3f).toInt64) - (1 : Int64))) ||| (r &&& ((((1 : Int64) <<< (((8 : Int32) * (5 : Int32)) &&& 0x3f).toInt64) - (1 : Int64)) ^^^ (-1 : Int64))))) : own_dec W (5 : Int32) = ((hi * (10000 : Int32)) + lo) / (1000 : Int32) := by
  obtain ⟨A1, A2, A3, A4, b1, b2, b3, b4, q1, q2, q3, q4, sh⟩ := own_four hh
  obtain ⟨A5, A6, A7, A8, b5, b6, b7, b8, q5, q6, q7, q8, sl⟩ := own_four hl
  have hd := own_dig (d0 := (hi / (1000 : Int32))) (d1 := ((hi / (100 : Int32)) % (10 : Int32))) (d2 := ((hi / (10 : Int32)) % (10 : Int32))) (d3 := (hi % (10 : Int32))) (d4 := (lo / (1000 : Int32))) (d5 := ((lo / (100 : Int32)) % (10 : Int32))) (d6 := ((lo / (10 : Int32)) % (10 : Int32))) (d7 := (lo % (10 : Int32))) (by rw [q1]; exact b1) (by rw [q2]; exact b2) (by rw [q3]; exact b3) (by rw [q4]; exact b4) (by rw [q5]; exact b5) (by rw [q6]; exact b6) (by rw [q7]; exact b7) (by rw [q8]; exact b8)
  rw [← hD, q1, q2, q3, q4, q5, q6, q7, q8] at hd
  have hw : W.toInt % 1099511627776 = D.toInt % 1099511627776 := by rw [hW]; exact own_low D r _ 40 1099511627776 (by decide) (by decide) (by decide)
  rw [hd] at hw
  have c1 := c_lsub W 3472328296227680304
  have z : (3472328296227680304 : Int64).toInt = 3472328296227680304 := by decide
  rw [z] at c1
  have c2 := c_lshl (W - 3472328296227680304) ((8 : Int32) * ((8 : Int32) - (5 : Int32))) 24 (by decide)
  have z2 : ((2 ^ 24 : Nat) : Int) = 16777216 := by decide
  rw [z2] at c2
  have hn : own_u (own_n W (5 : Int32)) = 1 * 0 + 256 * 0 + 65536 * 0 + 16777216 * A1 + 4294967296 * A2 + 1099511627776 * A3 + 281474976710656 * A4 + 72057594037927936 * A5 := by
    show ((W - (3472328296227680304 : Int64)) <<< (((8 : Int32) * ((8 : Int32) - (5 : Int32))) &&& 0x3f).toInt64).toInt % 18446744073709551616 = _
    generalize (W - (3472328296227680304 : Int64)) <<< (((8 : Int32) * ((8 : Int32) - (5 : Int32))) &&& 0x3f).toInt64 = y at *
    generalize W - (3472328296227680304 : Int64) = x at *
    clear hd hD hW q1 q2 q3 q4 q5 q6 q7 q8 sh sl
    omega
  have hs := own_swar (by decide) (by decide) (by decide) b1 b2 b3 b4 b5 hn
  apply Int32.toInt_inj.mp
  rw [own_dec_eq, hs]
  have m := c_imul hi 10000
  have z3 : (10000 : Int32).toInt = 10000 := by decide
  rw [z3] at m
  have ad := c_iadd (hi * 10000) lo
  have r1 := rng32 (hi * 10000)
  have r2 := rng32 (hi * 10000 + lo)
  clear hd hD hW hw c1 c2 hn hs q1 q2 q3 q4 q5 q6 q7 q8 hh hl
  have v : (hi * 10000 + lo).toInt = 10000 * hi.toInt + lo.toInt := by omega
  have dv := (c_idiv (hi * 10000 + lo) 1000 1000 (by decide) (by decide)).1 (by omega)
  rw [dv, v, sh, sl]
  clear m ad r1 r2 v dv
  omega
set_option maxHeartbeats 8000000 in
theorem own_main_6 {a b hi lo : Int32} {r D W : Int64} (hh : hi = (a &&& (2147483647 : Int32)) % (10000 : Int32)) (hl : lo = (b &&& (2147483647 : Int32)) % (10000 : Int32)) (hD : D = (((((((own_db (hi / (1000 : Int32)) (0 : Int32) ||| own_db ((hi / (100 : Int32)) % (10 : Int32)) (1 : Int32)) ||| own_db ((hi / (10 : Int32)) % (10 : Int32)) (2 : Int32)) ||| own_db (hi % (10 : Int32)) (3 : Int32)) ||| own_db (lo / (1000 : Int32)) (4 : Int32)) ||| own_db ((lo / (100 : Int32)) % (10 : Int32)) (5 : Int32)) ||| own_db ((lo / (10 : Int32)) % (10 : Int32)) (6 : Int32)) ||| own_db (lo % (10 : Int32)) (7 : Int32))) (hW : W = ((D &&& (((1 : Int64) <<< (((8 : Int32) * (6 : Int32)) &&& 0x3f).toInt64) - (1 : Int64))) ||| (r &&& ((((1 : Int64) <<< (((8 : Int32) * (6 : Int32)) &&& 0x3f).toInt64) - (1 : Int64)) ^^^ (-1 : Int64))))) : own_dec W (6 : Int32) = ((hi * (10000 : Int32)) + lo) / (100 : Int32) := by
  obtain ⟨A1, A2, A3, A4, b1, b2, b3, b4, q1, q2, q3, q4, sh⟩ := own_four hh
  obtain ⟨A5, A6, A7, A8, b5, b6, b7, b8, q5, q6, q7, q8, sl⟩ := own_four hl
  have hd := own_dig (d0 := (hi / (1000 : Int32))) (d1 := ((hi / (100 : Int32)) % (10 : Int32))) (d2 := ((hi / (10 : Int32)) % (10 : Int32))) (d3 := (hi % (10 : Int32))) (d4 := (lo / (1000 : Int32))) (d5 := ((lo / (100 : Int32)) % (10 : Int32))) (d6 := ((lo / (10 : Int32)) % (10 : Int32))) (d7 := (lo % (10 : Int32))) (by rw [q1]; exact b1) (by rw [q2]; exact b2) (by rw [q3]; exact b3) (by rw [q4]; exact b4) (by rw [q5]; exact b5) (by rw [q6]; exact b6) (by rw [q7]; exact b7) (by rw [q8]; exact b8)
  rw [← hD, q1, q2, q3, q4, q5, q6, q7, q8] at hd
  have hw : W.toInt % 281474976710656 = D.toInt % 281474976710656 := by rw [hW]; exact own_low D r _ 48 281474976710656 (by decide) (by decide) (by decide)
  rw [hd] at hw
  have c1 := c_lsub W 3472328296227680304
  have z : (3472328296227680304 : Int64).toInt = 3472328296227680304 := by decide
  rw [z] at c1
  have c2 := c_lshl (W - 3472328296227680304) ((8 : Int32) * ((8 : Int32) - (6 : Int32))) 16 (by decide)
  have z2 : ((2 ^ 16 : Nat) : Int) = 65536 := by decide
  rw [z2] at c2
  have hn : own_u (own_n W (6 : Int32)) = 1 * 0 + 256 * 0 + 65536 * A1 + 16777216 * A2 + 4294967296 * A3 + 1099511627776 * A4 + 281474976710656 * A5 + 72057594037927936 * A6 := by
    show ((W - (3472328296227680304 : Int64)) <<< (((8 : Int32) * ((8 : Int32) - (6 : Int32))) &&& 0x3f).toInt64).toInt % 18446744073709551616 = _
    generalize (W - (3472328296227680304 : Int64)) <<< (((8 : Int32) * ((8 : Int32) - (6 : Int32))) &&& 0x3f).toInt64 = y at *
    generalize W - (3472328296227680304 : Int64) = x at *
    clear hd hD hW q1 q2 q3 q4 q5 q6 q7 q8 sh sl
    omega
  have hs := own_swar (by decide) (by decide) b1 b2 b3 b4 b5 b6 hn
  apply Int32.toInt_inj.mp
  rw [own_dec_eq, hs]
  have m := c_imul hi 10000
  have z3 : (10000 : Int32).toInt = 10000 := by decide
  rw [z3] at m
  have ad := c_iadd (hi * 10000) lo
  have r1 := rng32 (hi * 10000)
  have r2 := rng32 (hi * 10000 + lo)
  clear hd hD hW hw c1 c2 hn hs q1 q2 q3 q4 q5 q6 q7 q8 hh hl
  have v : (hi * 10000 + lo).toInt = 10000 * hi.toInt + lo.toInt := by omega
  have dv := (c_idiv (hi * 10000 + lo) 100 100 (by decide) (by decide)).1 (by omega)
  rw [dv, v, sh, sl]
  clear m ad r1 r2 v dv
  omega
set_option maxHeartbeats 8000000 in
theorem own_main_7 {a b hi lo : Int32} {r D W : Int64} (hh : hi = (a &&& (2147483647 : Int32)) % (10000 : Int32)) (hl : lo = (b &&& (2147483647 : Int32)) % (10000 : Int32)) (hD : D = (((((((own_db (hi / (1000 : Int32)) (0 : Int32) ||| own_db ((hi / (100 : Int32)) % (10 : Int32)) (1 : Int32)) ||| own_db ((hi / (10 : Int32)) % (10 : Int32)) (2 : Int32)) ||| own_db (hi % (10 : Int32)) (3 : Int32)) ||| own_db (lo / (1000 : Int32)) (4 : Int32)) ||| own_db ((lo / (100 : Int32)) % (10 : Int32)) (5 : Int32)) ||| own_db ((lo / (10 : Int32)) % (10 : Int32)) (6 : Int32)) ||| own_db (lo % (10 : Int32)) (7 : Int32))) (hW : W = ((D &&& (((1 : Int64) <<< (((8 : Int32) * (7 : Int32)) &&& 0x3f).toInt64) - (1 : Int64))) ||| (r &&& ((((1 : Int64) <<< (((8 : Int32) * (7 : Int32)) &&& 0x3f).toInt64) - (1 : Int64)) ^^^ (-1 : Int64))))) : own_dec W (7 : Int32) = ((hi * (10000 : Int32)) + lo) / (10 : Int32) := by
  obtain ⟨A1, A2, A3, A4, b1, b2, b3, b4, q1, q2, q3, q4, sh⟩ := own_four hh
  obtain ⟨A5, A6, A7, A8, b5, b6, b7, b8, q5, q6, q7, q8, sl⟩ := own_four hl
  have hd := own_dig (d0 := (hi / (1000 : Int32))) (d1 := ((hi / (100 : Int32)) % (10 : Int32))) (d2 := ((hi / (10 : Int32)) % (10 : Int32))) (d3 := (hi % (10 : Int32))) (d4 := (lo / (1000 : Int32))) (d5 := ((lo / (100 : Int32)) % (10 : Int32))) (d6 := ((lo / (10 : Int32)) % (10 : Int32))) (d7 := (lo % (10 : Int32))) (by rw [q1]; exact b1) (by rw [q2]; exact b2) (by rw [q3]; exact b3) (by rw [q4]; exact b4) (by rw [q5]; exact b5) (by rw [q6]; exact b6) (by rw [q7]; exact b7) (by rw [q8]; exact b8)
  rw [← hD, q1, q2, q3, q4, q5, q6, q7, q8] at hd
  have hw : W.toInt % 72057594037927936 = D.toInt % 72057594037927936 := by rw [hW]; exact own_low D r _ 56 72057594037927936 (by decide) (by decide) (by decide)
  rw [hd] at hw
  have c1 := c_lsub W 3472328296227680304
  have z : (3472328296227680304 : Int64).toInt = 3472328296227680304 := by decide
  rw [z] at c1
  have c2 := c_lshl (W - 3472328296227680304) ((8 : Int32) * ((8 : Int32) - (7 : Int32))) 8 (by decide)
  have z2 : ((2 ^ 8 : Nat) : Int) = 256 := by decide
  rw [z2] at c2
  have hn : own_u (own_n W (7 : Int32)) = 1 * 0 + 256 * A1 + 65536 * A2 + 16777216 * A3 + 4294967296 * A4 + 1099511627776 * A5 + 281474976710656 * A6 + 72057594037927936 * A7 := by
    show ((W - (3472328296227680304 : Int64)) <<< (((8 : Int32) * ((8 : Int32) - (7 : Int32))) &&& 0x3f).toInt64).toInt % 18446744073709551616 = _
    generalize (W - (3472328296227680304 : Int64)) <<< (((8 : Int32) * ((8 : Int32) - (7 : Int32))) &&& 0x3f).toInt64 = y at *
    generalize W - (3472328296227680304 : Int64) = x at *
    clear hd hD hW q1 q2 q3 q4 q5 q6 q7 q8 sh sl
    omega
  have hs := own_swar (by decide) b1 b2 b3 b4 b5 b6 b7 hn
  apply Int32.toInt_inj.mp
  rw [own_dec_eq, hs]
  have m := c_imul hi 10000
  have z3 : (10000 : Int32).toInt = 10000 := by decide
  rw [z3] at m
  have ad := c_iadd (hi * 10000) lo
  have r1 := rng32 (hi * 10000)
  have r2 := rng32 (hi * 10000 + lo)
  clear hd hD hW hw c1 c2 hn hs q1 q2 q3 q4 q5 q6 q7 q8 hh hl
  have v : (hi * 10000 + lo).toInt = 10000 * hi.toInt + lo.toInt := by omega
  have dv := (c_idiv (hi * 10000 + lo) 10 10 (by decide) (by decide)).1 (by omega)
  rw [dv, v, sh, sl]
  clear m ad r1 r2 v dv
  omega
set_option maxHeartbeats 8000000 in
theorem own_main_8 {a b hi lo : Int32} {r D W : Int64} (hh : hi = (a &&& (2147483647 : Int32)) % (10000 : Int32)) (hl : lo = (b &&& (2147483647 : Int32)) % (10000 : Int32)) (hD : D = (((((((own_db (hi / (1000 : Int32)) (0 : Int32) ||| own_db ((hi / (100 : Int32)) % (10 : Int32)) (1 : Int32)) ||| own_db ((hi / (10 : Int32)) % (10 : Int32)) (2 : Int32)) ||| own_db (hi % (10 : Int32)) (3 : Int32)) ||| own_db (lo / (1000 : Int32)) (4 : Int32)) ||| own_db ((lo / (100 : Int32)) % (10 : Int32)) (5 : Int32)) ||| own_db ((lo / (10 : Int32)) % (10 : Int32)) (6 : Int32)) ||| own_db (lo % (10 : Int32)) (7 : Int32))) (hW : W = ((D &&& (-1 : Int64)) ||| (r &&& ((-1 : Int64) ^^^ (-1 : Int64))))) : own_dec W (8 : Int32) = ((hi * (10000 : Int32)) + lo) / (1 : Int32) := by
  obtain ⟨A1, A2, A3, A4, b1, b2, b3, b4, q1, q2, q3, q4, sh⟩ := own_four hh
  obtain ⟨A5, A6, A7, A8, b5, b6, b7, b8, q5, q6, q7, q8, sl⟩ := own_four hl
  have hd := own_dig (d0 := (hi / (1000 : Int32))) (d1 := ((hi / (100 : Int32)) % (10 : Int32))) (d2 := ((hi / (10 : Int32)) % (10 : Int32))) (d3 := (hi % (10 : Int32))) (d4 := (lo / (1000 : Int32))) (d5 := ((lo / (100 : Int32)) % (10 : Int32))) (d6 := ((lo / (10 : Int32)) % (10 : Int32))) (d7 := (lo % (10 : Int32))) (by rw [q1]; exact b1) (by rw [q2]; exact b2) (by rw [q3]; exact b3) (by rw [q4]; exact b4) (by rw [q5]; exact b5) (by rw [q6]; exact b6) (by rw [q7]; exact b7) (by rw [q8]; exact b8)
  rw [← hD, q1, q2, q3, q4, q5, q6, q7, q8] at hd
  have hw : W.toInt = D.toInt := by rw [hW, own_low8]
  rw [hd] at hw
  have c1 := c_lsub W 3472328296227680304
  have z : (3472328296227680304 : Int64).toInt = 3472328296227680304 := by decide
  rw [z] at c1
  have c2 := c_lshl (W - 3472328296227680304) ((8 : Int32) * ((8 : Int32) - (8 : Int32))) 0 (by decide)
  have z2 : ((2 ^ 0 : Nat) : Int) = 1 := by decide
  rw [z2] at c2
  have hn : own_u (own_n W (8 : Int32)) = 1 * A1 + 256 * A2 + 65536 * A3 + 16777216 * A4 + 4294967296 * A5 + 1099511627776 * A6 + 281474976710656 * A7 + 72057594037927936 * A8 := by
    show ((W - (3472328296227680304 : Int64)) <<< (((8 : Int32) * ((8 : Int32) - (8 : Int32))) &&& 0x3f).toInt64).toInt % 18446744073709551616 = _
    generalize (W - (3472328296227680304 : Int64)) <<< (((8 : Int32) * ((8 : Int32) - (8 : Int32))) &&& 0x3f).toInt64 = y at *
    generalize W - (3472328296227680304 : Int64) = x at *
    clear hd hD hW q1 q2 q3 q4 q5 q6 q7 q8 sh sl
    omega
  have hs := own_swar b1 b2 b3 b4 b5 b6 b7 b8 hn
  apply Int32.toInt_inj.mp
  rw [own_dec_eq, hs]
  have m := c_imul hi 10000
  have z3 : (10000 : Int32).toInt = 10000 := by decide
  rw [z3] at m
  have ad := c_iadd (hi * 10000) lo
  have r1 := rng32 (hi * 10000)
  have r2 := rng32 (hi * 10000 + lo)
  clear hd hD hW hw c1 c2 hn hs q1 q2 q3 q4 q5 q6 q7 q8 hh hl
  have v : (hi * 10000 + lo).toInt = 10000 * hi.toInt + lo.toInt := by omega
  have dv := (c_idiv (hi * 10000 + lo) 1 1 (by decide) (by decide)).1 (by omega)
  rw [dv, v, sh, sl]
  clear m ad r1 r2 v dv
  omega
theorem d1_0 : decode method_2_code 0 = .ok (.bipush 48, 2) := by decide +kernel
theorem d1_2 : decode method_2_code 2 = .ok (.iload_n 0, 1) := by decide +kernel
theorem d1_3 : decode method_2_code 3 = .ok (.iadd, 1) := by decide +kernel
theorem d1_4 : decode method_2_code 4 = .ok (.i2l, 1) := by decide +kernel
theorem d1_5 : decode method_2_code 5 = .ok (.bipush 8, 2) := by decide +kernel
theorem d1_7 : decode method_2_code 7 = .ok (.iload_n 1, 1) := by decide +kernel
theorem d1_8 : decode method_2_code 8 = .ok (.imul, 1) := by decide +kernel
theorem d1_9 : decode method_2_code 9 = .ok (.lshl, 1) := by decide +kernel
theorem d1_10 : decode method_2_code 10 = .ok (.lreturn, 1) := by decide +kernel
theorem pn_0 : plainName "com/example/fillwire/fillwire/wire/WordsDecimalPinLaw" = true := by first | (simp [plainName, overriddenIn]; done) | decide +kernel
theorem ef_rm1 (m : MethodId) (x0 : Int32) (x1 : Int32) : entryFrame m #[(.int x0), (.int x1)] 2 = mkF m 0 #[.val (.int x0), .val (.int x1)] [] := by first | (simp [entryFrame, mkF, argsToLocals, Value.category]; done) | rfl
def Q_rm1 (pD pP : Int32) (h0 : Heap) (n0 : Nat) (v : Option Value) (h : Heap) (L : List Loc) : Prop := v = some (.long (own_db pD pP)) ∧ Fr n0 L ∧ h = h0
set_option maxRecDepth 65536 in
set_option maxHeartbeats 40000000 in
theorem rm1 (l : Launch) (Z : State) (a0 : Array Value) (hw : ∀ d ∈ tables_1, d.before a0 Z = true) (ws : List Jvm.Cond) (pD : Int32) (pP : Int32)  (h0 : Heap) (n0 : Nat) (Z0 : n0 ≤ h0.size)  :
    MetFree l (⟨"com/example/fillwire/fillwire/wire/WordsDecimalPinLaw", "digitByte", "(II)J"⟩ : MethodName) (head1 (Jvm.Cond.code (⟨"com/example/fillwire/fillwire/wire/WordsDecimalPinLaw", "digitByte", "(II)J"⟩ : MethodName) method_2_code 2 (some .long) :: ws) ({ frames := 0, cells := 0, slots := 0, locals := 0 } : Room)) (fun a U => a = #[(.int pD), (.int pP)] ∧ Z.Warmed39 U.vm ∧ U.heap = h0) (fun _ _ _ _ _ => True) (fun _ U o U' => ∃ v L, o = .returned v ∧ Q_rm1 pD pP h0 n0 v U'.heap L ∧ FrameEnd U o U' L ({ frames := 0, cells := 0, slots := 0, locals := 0 } : Room).cells ({ frames := 0, cells := 0, slots := 0, locals := 0 } : Room).slots) := by
  refine MetFree.of_bodySF (plainFor_of_name pn_0) hisR ?_
  intro p e s m args below meth c s₁ Bd hml0 hP hK
  obtain ⟨rfl, hZ, hh⟩ := hP
  have hx := Bd.exec
  have hby := Bd.bytes
  have hml : c.maxLocals = 2 := hml0
  have hown : s.vm.findClass "com/example/fillwire/fillwire/wire/WordsDecimalPinLaw" = some m.cls := findClass_of_methodNamed Bd.named
  have hnm := (name_of_methodNamed Bd.named Bd.method).1
  have X0 : Stand p l e ({ frames := 0, cells := 0, slots := 0, locals := 0 } : Room) s m #[(.int pD), (.int pP)] below meth c s₁ [] 0 0 := Stand.of_body Bd
  have e0 : s₁.heap = h0 := by rw [← hh, Bd.state]; rfl
  have N0 := Fr.nil n0
  let PO : Outcome → State → Prop := own_PO s (Q_rm1 pD pP h0 n0) 0 0
  show own_Go p e below PO (s₁.setTop (entryFrame m #[(.int pD), (.int pP)] 2))
  rw [ef_rm1]
  show own_Go p e below PO (s₁.setTop (mkF m 0 #[.val (.int pD), .val (.int pP)] []))
  refine own_back ?_ (fun t k => XS.bipush X0.here hx rfl (hb hby d1_0) k)
  show own_Go p e below PO (s₁.setTop (mkF m 2 #[.val (.int pD), .val (.int pP)] [(.int (48 : Int32))]))
  refine own_back ?_ (fun t k => XS.iloadN X0.here hx rfl (hb hby d1_2) rfl k)
  show own_Go p e below PO (s₁.setTop (mkF m 3 #[.val (.int pD), .val (.int pP)] [(.int pD), (.int (48 : Int32))]))
  refine own_back ?_ (fun t k => XS.iadd X0.here hx rfl (hb hby d1_3) rfl k)
  show own_Go p e below PO (s₁.setTop (mkF m 4 #[.val (.int pD), .val (.int pP)] [(.int ((48 : Int32) + pD))]))
  refine own_back ?_ (fun t k => XS.i2l X0.here hx rfl (hb hby d1_4) rfl k)
  show own_Go p e below PO (s₁.setTop (mkF m 5 #[.val (.int pD), .val (.int pP)] [(.long (((48 : Int32) + pD).toInt64))]))
  refine own_back ?_ (fun t k => XS.bipush X0.here hx rfl (hb hby d1_5) k)
  show own_Go p e below PO (s₁.setTop (mkF m 7 #[.val (.int pD), .val (.int pP)] [(.int (8 : Int32)), (.long (((48 : Int32) + pD).toInt64))]))
  refine own_back ?_ (fun t k => XS.iloadN X0.here hx rfl (hb hby d1_7) rfl k)
  show own_Go p e below PO (s₁.setTop (mkF m 8 #[.val (.int pD), .val (.int pP)] [(.int pP), (.int (8 : Int32)), (.long (((48 : Int32) + pD).toInt64))]))
  refine own_back ?_ (fun t k => XS.imul X0.here hx rfl (hb hby d1_8) rfl k)
  show own_Go p e below PO (s₁.setTop (mkF m 9 #[.val (.int pD), .val (.int pP)] [(.int ((8 : Int32) * pP)), (.long (((48 : Int32) + pD).toInt64))]))
  refine own_back ?_ (fun t k => XS.lshl X0.here hx rfl (hb hby d1_9) rfl k)
  show own_Go p e below PO (s₁.setTop (mkF m 10 #[.val (.int pD), .val (.int pP)] [(.long ((((48 : Int32) + pD).toInt64) <<< (((8 : Int32) * pP) &&& 0x3f).toInt64))]))
  refine own_retJ X0 hx (rest := []) Bd.returns (hb hby d1_10) e0 (Bd.notSynchronized) ?_ (by decide) (by decide)
  exact ⟨rfl, N0, rfl⟩
theorem d2_0 : decode prog_40_method_11_code 0 = .ok (.lload_n 0, 1) := by decide +kernel
theorem d2_1 : decode prog_40_method_11_code 1 = .ok (.getstatic 25, 3) := by decide +kernel
theorem d2_4 : decode prog_40_method_11_code 4 = .ok (.lsub, 1) := by decide +kernel
theorem d2_5 : decode prog_40_method_11_code 5 = .ok (.bipush 8, 2) := by decide +kernel
theorem d2_7 : decode prog_40_method_11_code 7 = .ok (.bipush 8, 2) := by decide +kernel
theorem d2_9 : decode prog_40_method_11_code 9 = .ok (.iload_n 2, 1) := by decide +kernel
theorem d2_10 : decode prog_40_method_11_code 10 = .ok (.isub, 1) := by decide +kernel
theorem d2_11 : decode prog_40_method_11_code 11 = .ok (.imul, 1) := by decide +kernel
theorem d2_12 : decode prog_40_method_11_code 12 = .ok (.lshl, 1) := by decide +kernel
theorem d2_13 : decode prog_40_method_11_code 13 = .ok (.lstore_n 3, 1) := by decide +kernel
theorem d2_14 : decode prog_40_method_11_code 14 = .ok (.lload_n 3, 1) := by decide +kernel
theorem d2_15 : decode prog_40_method_11_code 15 = .ok (.ldc2_w 44, 3) := by decide +kernel
theorem d2_18 : decode prog_40_method_11_code 18 = .ok (.lmul, 1) := by decide +kernel
theorem d2_19 : decode prog_40_method_11_code 19 = .ok (.lload_n 3, 1) := by decide +kernel
theorem d2_20 : decode prog_40_method_11_code 20 = .ok (.bipush 8, 2) := by decide +kernel
theorem d2_22 : decode prog_40_method_11_code 22 = .ok (.lushr, 1) := by decide +kernel
theorem d2_23 : decode prog_40_method_11_code 23 = .ok (.ladd, 1) := by decide +kernel
theorem d2_24 : decode prog_40_method_11_code 24 = .ok (.lstore 5, 2) := by decide +kernel
theorem d2_26 : decode prog_40_method_11_code 26 = .ok (.lload 5, 2) := by decide +kernel
theorem d2_28 : decode prog_40_method_11_code 28 = .ok (.ldc2_w 46, 3) := by decide +kernel
theorem d2_31 : decode prog_40_method_11_code 31 = .ok (.land, 1) := by decide +kernel
theorem d2_32 : decode prog_40_method_11_code 32 = .ok (.ldc2_w 48, 3) := by decide +kernel
theorem d2_35 : decode prog_40_method_11_code 35 = .ok (.lmul, 1) := by decide +kernel
theorem d2_36 : decode prog_40_method_11_code 36 = .ok (.lstore 7, 2) := by decide +kernel
theorem d2_38 : decode prog_40_method_11_code 38 = .ok (.lload 7, 2) := by decide +kernel
theorem d2_40 : decode prog_40_method_11_code 40 = .ok (.lload 5, 2) := by decide +kernel
theorem d2_42 : decode prog_40_method_11_code 42 = .ok (.bipush 16, 2) := by decide +kernel
theorem d2_44 : decode prog_40_method_11_code 44 = .ok (.lushr, 1) := by decide +kernel
theorem d2_45 : decode prog_40_method_11_code 45 = .ok (.ldc2_w 46, 3) := by decide +kernel
theorem d2_48 : decode prog_40_method_11_code 48 = .ok (.land, 1) := by decide +kernel
theorem d2_49 : decode prog_40_method_11_code 49 = .ok (.ldc2_w 50, 3) := by decide +kernel
theorem d2_52 : decode prog_40_method_11_code 52 = .ok (.lmul, 1) := by decide +kernel
theorem d2_53 : decode prog_40_method_11_code 53 = .ok (.ladd, 1) := by decide +kernel
theorem d2_54 : decode prog_40_method_11_code 54 = .ok (.bipush 32, 2) := by decide +kernel
theorem d2_56 : decode prog_40_method_11_code 56 = .ok (.lushr, 1) := by decide +kernel
theorem d2_57 : decode prog_40_method_11_code 57 = .ok (.l2i, 1) := by decide +kernel
theorem d2_58 : decode prog_40_method_11_code 58 = .ok (.ireturn, 1) := by decide +kernel
theorem pn_1 : plainName "com/example/fillwire/fillwire/wire/Words" = true := by first | (simp [plainName, overriddenIn]; done) | decide +kernel
theorem ef_rm2 (m : MethodId) (x0 : Int64) (x1 : Int32) : entryFrame m #[(.long x0), (.int x1)] 9 = mkF m 0 #[.val (.long x0), .second, .val (.int x1), .unset, .unset, .unset, .unset, .unset, .unset] [] := by first | (simp [entryFrame, mkF, argsToLocals, Value.category]; done) | rfl
def Q_rm2 (jW : Int64) (pC : Int32) (h0 : Heap) (n0 : Nat) (v : Option Value) (h : Heap) (L : List Loc) : Prop := v = some (.int (own_dec jW pC)) ∧ Fr n0 L ∧ h = h0
set_option maxRecDepth 65536 in
set_option maxHeartbeats 40000000 in
theorem rm2 (l : Launch) (Z : State) (a0 : Array Value) (hw : ∀ d ∈ tables_1, d.before a0 Z = true) (ws : List Jvm.Cond) (jW : Int64) (pC : Int32)  (h0 : Heap) (n0 : Nat) (Z0 : n0 ≤ h0.size) (S_Z : Sta Z h0 "com/example/fillwire/fillwire/wire/Words" "ZEROS" "J" (.long (3472328296227680304 : Int64))) :
    MetFree l (⟨"com/example/fillwire/fillwire/wire/Words", "decimal", "(JI)I"⟩ : MethodName) (head1 (Jvm.Cond.code (⟨"com/example/fillwire/fillwire/wire/Words", "decimal", "(JI)I"⟩ : MethodName) prog_40_method_11_code 9 (some .int) :: ws) ({ frames := 0, cells := 0, slots := 0, locals := 0 } : Room)) (fun a U => a = #[(.long jW), (.int pC)] ∧ Z.Warmed39 U.vm ∧ U.heap = h0) (fun _ _ _ _ _ => True) (fun _ U o U' => ∃ v L, o = .returned v ∧ Q_rm2 jW pC h0 n0 v U'.heap L ∧ FrameEnd U o U' L ({ frames := 0, cells := 0, slots := 0, locals := 0 } : Room).cells ({ frames := 0, cells := 0, slots := 0, locals := 0 } : Room).slots) := by
  refine MetFree.of_bodySF (plainFor_of_name pn_1) hisR ?_
  intro p e s m args below meth c s₁ Bd hml0 hP hK
  obtain ⟨rfl, hZ, hh⟩ := hP
  have hx := Bd.exec
  have hby := Bd.bytes
  have hml : c.maxLocals = 9 := hml0
  have hown : s.vm.findClass "com/example/fillwire/fillwire/wire/Words" = some m.cls := findClass_of_methodNamed Bd.named
  have hnm := (name_of_methodNamed Bd.named Bd.method).1
  have X0 : Stand p l e ({ frames := 0, cells := 0, slots := 0, locals := 0 } : Room) s m #[(.long jW), (.int pC)] below meth c s₁ [] 0 0 := Stand.of_body Bd
  have e0 : s₁.heap = h0 := by rw [← hh, Bd.state]; rfl
  have N0 := Fr.nil n0
  let PO : Outcome → State → Prop := own_PO s (Q_rm2 jW pC h0 n0) 0 0
  show own_Go p e below PO (s₁.setTop (entryFrame m #[(.long jW), (.int pC)] 9))
  rw [ef_rm2]
  show own_Go p e below PO (s₁.setTop (mkF m 0 #[.val (.long jW), .second, .val (.int pC), .unset, .unset, .unset, .unset, .unset, .unset] []))
  refine own_back ?_ (fun t k => XS.lloadN X0.here hx rfl (hb hby d2_0) rfl k)
  show own_Go p e below PO (s₁.setTop (mkF m 1 #[.val (.long jW), .second, .val (.int pC), .unset, .unset, .unset, .unset, .unset, .unset] [(.long jW)]))
  obtain ⟨T1, X1, e1, st1⟩ := getS2 X0 hx hZ hown (host := "") (Or.inl (hw _ (List.mem_of_getElem? (i := 15) rfl))) Via.refl e0 S_Z (g := (mkF m 1 #[.val (.long jW), .second, .val (.int pC), .unset, .unset, .unset, .unset, .unset, .unset] [(.long jW)])) rfl (hb hby d2_1)
  refine own_back ?_ st1
  show own_Go p e below PO (T1.setTop (mkF m 4 #[.val (.long jW), .second, .val (.int pC), .unset, .unset, .unset, .unset, .unset, .unset] [(.long (3472328296227680304 : Int64)), (.long jW)]))
  refine own_back ?_ (fun t k => XS.lsub X1.here hx rfl (hb hby d2_4) rfl k)
  show own_Go p e below PO (T1.setTop (mkF m 5 #[.val (.long jW), .second, .val (.int pC), .unset, .unset, .unset, .unset, .unset, .unset] [(.long (jW - (3472328296227680304 : Int64)))]))
  refine own_back ?_ (fun t k => XS.bipush X1.here hx rfl (hb hby d2_5) k)
  show own_Go p e below PO (T1.setTop (mkF m 7 #[.val (.long jW), .second, .val (.int pC), .unset, .unset, .unset, .unset, .unset, .unset] [(.int (8 : Int32)), (.long (jW - (3472328296227680304 : Int64)))]))
  refine own_back ?_ (fun t k => XS.bipush X1.here hx rfl (hb hby d2_7) k)
  show own_Go p e below PO (T1.setTop (mkF m 9 #[.val (.long jW), .second, .val (.int pC), .unset, .unset, .unset, .unset, .unset, .unset] [(.int (8 : Int32)), (.int (8 : Int32)), (.long (jW - (3472328296227680304 : Int64)))]))
  refine own_back ?_ (fun t k => XS.iloadN X1.here hx rfl (hb hby d2_9) rfl k)
  show own_Go p e below PO (T1.setTop (mkF m 10 #[.val (.long jW), .second, .val (.int pC), .unset, .unset, .unset, .unset, .unset, .unset] [(.int pC), (.int (8 : Int32)), (.int (8 : Int32)), (.long (jW - (3472328296227680304 : Int64)))]))
  refine own_back ?_ (fun t k => XS.isub X1.here hx rfl (hb hby d2_10) rfl k)
  show own_Go p e below PO (T1.setTop (mkF m 11 #[.val (.long jW), .second, .val (.int pC), .unset, .unset, .unset, .unset, .unset, .unset] [(.int ((8 : Int32) - pC)), (.int (8 : Int32)), (.long (jW - (3472328296227680304 : Int64)))]))
  refine own_back ?_ (fun t k => XS.imul X1.here hx rfl (hb hby d2_11) rfl k)
  show own_Go p e below PO (T1.setTop (mkF m 12 #[.val (.long jW), .second, .val (.int pC), .unset, .unset, .unset, .unset, .unset, .unset] [(.int ((8 : Int32) * ((8 : Int32) - pC))), (.long (jW - (3472328296227680304 : Int64)))]))
  refine own_back ?_ (fun t k => XS.lshl X1.here hx rfl (hb hby d2_12) rfl k)
  show own_Go p e below PO (T1.setTop (mkF m 13 #[.val (.long jW), .second, .val (.int pC), .unset, .unset, .unset, .unset, .unset, .unset] [(.long ((jW - (3472328296227680304 : Int64)) <<< (((8 : Int32) * ((8 : Int32) - pC)) &&& 0x3f).toInt64))]))
  refine own_back ?_ (fun t k => XS.lstoreN X1.here hx rfl (hb hby d2_13) rfl (l' := #[.val (.long jW), .second, .val (.int pC), .val (.long ((jW - (3472328296227680304 : Int64)) <<< (((8 : Int32) * ((8 : Int32) - pC)) &&& 0x3f).toInt64)), .second, .unset, .unset, .unset, .unset]) rfl k)
  show own_Go p e below PO (T1.setTop (mkF m 14 #[.val (.long jW), .second, .val (.int pC), .val (.long ((jW - (3472328296227680304 : Int64)) <<< (((8 : Int32) * ((8 : Int32) - pC)) &&& 0x3f).toInt64)), .second, .unset, .unset, .unset, .unset] []))
  refine own_back ?_ (fun t k => XS.lloadN X1.here hx rfl (hb hby d2_14) rfl k)
  show own_Go p e below PO (T1.setTop (mkF m 15 #[.val (.long jW), .second, .val (.int pC), .val (.long ((jW - (3472328296227680304 : Int64)) <<< (((8 : Int32) * ((8 : Int32) - pC)) &&& 0x3f).toInt64)), .second, .unset, .unset, .unset, .unset] [(.long ((jW - (3472328296227680304 : Int64)) <<< (((8 : Int32) * ((8 : Int32) - pC)) &&& 0x3f).toInt64))]))
  refine own_back ?_ (fun t k => X1.ldc2Long hx hown (mvT hZ (hw _ (List.mem_of_getElem? (i := 17) rfl))) (g := (mkF m 15 #[.val (.long jW), .second, .val (.int pC), .val (.long ((jW - (3472328296227680304 : Int64)) <<< (((8 : Int32) * ((8 : Int32) - pC)) &&& 0x3f).toInt64)), .second, .unset, .unset, .unset, .unset] [(.long ((jW - (3472328296227680304 : Int64)) <<< (((8 : Int32) * ((8 : Int32) - pC)) &&& 0x3f).toInt64))])) rfl (hb hby d2_15) _ k)
  show own_Go p e below PO (T1.setTop (mkF m 18 #[.val (.long jW), .second, .val (.int pC), .val (.long ((jW - (3472328296227680304 : Int64)) <<< (((8 : Int32) * ((8 : Int32) - pC)) &&& 0x3f).toInt64)), .second, .unset, .unset, .unset, .unset] [(.long (10 : Int64)), (.long ((jW - (3472328296227680304 : Int64)) <<< (((8 : Int32) * ((8 : Int32) - pC)) &&& 0x3f).toInt64))]))
  refine own_back ?_ (fun t k => XS.lmul X1.here hx rfl (hb hby d2_18) rfl k)
  show own_Go p e below PO (T1.setTop (mkF m 19 #[.val (.long jW), .second, .val (.int pC), .val (.long ((jW - (3472328296227680304 : Int64)) <<< (((8 : Int32) * ((8 : Int32) - pC)) &&& 0x3f).toInt64)), .second, .unset, .unset, .unset, .unset] [(.long (((jW - (3472328296227680304 : Int64)) <<< (((8 : Int32) * ((8 : Int32) - pC)) &&& 0x3f).toInt64) * (10 : Int64)))]))
  refine own_back ?_ (fun t k => XS.lloadN X1.here hx rfl (hb hby d2_19) rfl k)
  show own_Go p e below PO (T1.setTop (mkF m 20 #[.val (.long jW), .second, .val (.int pC), .val (.long ((jW - (3472328296227680304 : Int64)) <<< (((8 : Int32) * ((8 : Int32) - pC)) &&& 0x3f).toInt64)), .second, .unset, .unset, .unset, .unset] [(.long ((jW - (3472328296227680304 : Int64)) <<< (((8 : Int32) * ((8 : Int32) - pC)) &&& 0x3f).toInt64)), (.long (((jW - (3472328296227680304 : Int64)) <<< (((8 : Int32) * ((8 : Int32) - pC)) &&& 0x3f).toInt64) * (10 : Int64)))]))
  refine own_back ?_ (fun t k => XS.bipush X1.here hx rfl (hb hby d2_20) k)
  show own_Go p e below PO (T1.setTop (mkF m 22 #[.val (.long jW), .second, .val (.int pC), .val (.long ((jW - (3472328296227680304 : Int64)) <<< (((8 : Int32) * ((8 : Int32) - pC)) &&& 0x3f).toInt64)), .second, .unset, .unset, .unset, .unset] [(.int (8 : Int32)), (.long ((jW - (3472328296227680304 : Int64)) <<< (((8 : Int32) * ((8 : Int32) - pC)) &&& 0x3f).toInt64)), (.long (((jW - (3472328296227680304 : Int64)) <<< (((8 : Int32) * ((8 : Int32) - pC)) &&& 0x3f).toInt64) * (10 : Int64)))]))
  refine own_back ?_ (fun t k => XS.lushr X1.here hx rfl (hb hby d2_22) rfl k)
  show own_Go p e below PO (T1.setTop (mkF m 23 #[.val (.long jW), .second, .val (.int pC), .val (.long ((jW - (3472328296227680304 : Int64)) <<< (((8 : Int32) * ((8 : Int32) - pC)) &&& 0x3f).toInt64)), .second, .unset, .unset, .unset, .unset] [(.long ((((jW - (3472328296227680304 : Int64)) <<< (((8 : Int32) * ((8 : Int32) - pC)) &&& 0x3f).toInt64).toUInt64 >>> ((8 : Int32) &&& 0x3f).toInt64.toUInt64).toInt64)), (.long (((jW - (3472328296227680304 : Int64)) <<< (((8 : Int32) * ((8 : Int32) - pC)) &&& 0x3f).toInt64) * (10 : Int64)))]))
  refine own_back ?_ (fun t k => XS.ladd X1.here hx rfl (hb hby d2_23) rfl k)
  show own_Go p e below PO (T1.setTop (mkF m 24 #[.val (.long jW), .second, .val (.int pC), .val (.long ((jW - (3472328296227680304 : Int64)) <<< (((8 : Int32) * ((8 : Int32) - pC)) &&& 0x3f).toInt64)), .second, .unset, .unset, .unset, .unset] [(.long ((((jW - (3472328296227680304 : Int64)) <<< (((8 : Int32) * ((8 : Int32) - pC)) &&& 0x3f).toInt64) * (10 : Int64)) + ((((jW - (3472328296227680304 : Int64)) <<< (((8 : Int32) * ((8 : Int32) - pC)) &&& 0x3f).toInt64).toUInt64 >>> ((8 : Int32) &&& 0x3f).toInt64.toUInt64).toInt64)))]))
  refine own_back ?_ (fun t k => XS.lstore X1.here hx rfl (hb hby d2_24) rfl (l' := #[.val (.long jW), .second, .val (.int pC), .val (.long ((jW - (3472328296227680304 : Int64)) <<< (((8 : Int32) * ((8 : Int32) - pC)) &&& 0x3f).toInt64)), .second, .val (.long ((((jW - (3472328296227680304 : Int64)) <<< (((8 : Int32) * ((8 : Int32) - pC)) &&& 0x3f).toInt64) * (10 : Int64)) + ((((jW - (3472328296227680304 : Int64)) <<< (((8 : Int32) * ((8 : Int32) - pC)) &&& 0x3f).toInt64).toUInt64 >>> ((8 : Int32) &&& 0x3f).toInt64.toUInt64).toInt64))), .second, .unset, .unset]) rfl k)
  show own_Go p e below PO (T1.setTop (mkF m 26 #[.val (.long jW), .second, .val (.int pC), .val (.long ((jW - (3472328296227680304 : Int64)) <<< (((8 : Int32) * ((8 : Int32) - pC)) &&& 0x3f).toInt64)), .second, .val (.long ((((jW - (3472328296227680304 : Int64)) <<< (((8 : Int32) * ((8 : Int32) - pC)) &&& 0x3f).toInt64) * (10 : Int64)) + ((((jW - (3472328296227680304 : Int64)) <<< (((8 : Int32) * ((8 : Int32) - pC)) &&& 0x3f).toInt64).toUInt64 >>> ((8 : Int32) &&& 0x3f).toInt64.toUInt64).toInt64))), .second, .unset, .unset] []))
  refine own_back ?_ (fun t k => XS.lload X1.here hx rfl (hb hby d2_26) rfl k)
  show own_Go p e below PO (T1.setTop (mkF m 28 #[.val (.long jW), .second, .val (.int pC), .val (.long ((jW - (3472328296227680304 : Int64)) <<< (((8 : Int32) * ((8 : Int32) - pC)) &&& 0x3f).toInt64)), .second, .val (.long ((((jW - (3472328296227680304 : Int64)) <<< (((8 : Int32) * ((8 : Int32) - pC)) &&& 0x3f).toInt64) * (10 : Int64)) + ((((jW - (3472328296227680304 : Int64)) <<< (((8 : Int32) * ((8 : Int32) - pC)) &&& 0x3f).toInt64).toUInt64 >>> ((8 : Int32) &&& 0x3f).toInt64.toUInt64).toInt64))), .second, .unset, .unset] [(.long ((((jW - (3472328296227680304 : Int64)) <<< (((8 : Int32) * ((8 : Int32) - pC)) &&& 0x3f).toInt64) * (10 : Int64)) + ((((jW - (3472328296227680304 : Int64)) <<< (((8 : Int32) * ((8 : Int32) - pC)) &&& 0x3f).toInt64).toUInt64 >>> ((8 : Int32) &&& 0x3f).toInt64.toUInt64).toInt64)))]))
  refine own_back ?_ (fun t k => X1.ldc2Long hx hown (mvT hZ (hw _ (List.mem_of_getElem? (i := 18) rfl))) (g := (mkF m 28 #[.val (.long jW), .second, .val (.int pC), .val (.long ((jW - (3472328296227680304 : Int64)) <<< (((8 : Int32) * ((8 : Int32) - pC)) &&& 0x3f).toInt64)), .second, .val (.long ((((jW - (3472328296227680304 : Int64)) <<< (((8 : Int32) * ((8 : Int32) - pC)) &&& 0x3f).toInt64) * (10 : Int64)) + ((((jW - (3472328296227680304 : Int64)) <<< (((8 : Int32) * ((8 : Int32) - pC)) &&& 0x3f).toInt64).toUInt64 >>> ((8 : Int32) &&& 0x3f).toInt64.toUInt64).toInt64))), .second, .unset, .unset] [(.long ((((jW - (3472328296227680304 : Int64)) <<< (((8 : Int32) * ((8 : Int32) - pC)) &&& 0x3f).toInt64) * (10 : Int64)) + ((((jW - (3472328296227680304 : Int64)) <<< (((8 : Int32) * ((8 : Int32) - pC)) &&& 0x3f).toInt64).toUInt64 >>> ((8 : Int32) &&& 0x3f).toInt64.toUInt64).toInt64)))])) rfl (hb hby d2_28) _ k)
  show own_Go p e below PO (T1.setTop (mkF m 31 #[.val (.long jW), .second, .val (.int pC), .val (.long ((jW - (3472328296227680304 : Int64)) <<< (((8 : Int32) * ((8 : Int32) - pC)) &&& 0x3f).toInt64)), .second, .val (.long ((((jW - (3472328296227680304 : Int64)) <<< (((8 : Int32) * ((8 : Int32) - pC)) &&& 0x3f).toInt64) * (10 : Int64)) + ((((jW - (3472328296227680304 : Int64)) <<< (((8 : Int32) * ((8 : Int32) - pC)) &&& 0x3f).toInt64).toUInt64 >>> ((8 : Int32) &&& 0x3f).toInt64.toUInt64).toInt64))), .second, .unset, .unset] [(.long (1095216660735 : Int64)), (.long ((((jW - (3472328296227680304 : Int64)) <<< (((8 : Int32) * ((8 : Int32) - pC)) &&& 0x3f).toInt64) * (10 : Int64)) + ((((jW - (3472328296227680304 : Int64)) <<< (((8 : Int32) * ((8 : Int32) - pC)) &&& 0x3f).toInt64).toUInt64 >>> ((8 : Int32) &&& 0x3f).toInt64.toUInt64).toInt64)))]))
  refine own_back ?_ (fun t k => XS.land X1.here hx rfl (hb hby d2_31) rfl k)
  show own_Go p e below PO (T1.setTop (mkF m 32 #[.val (.long jW), .second, .val (.int pC), .val (.long ((jW - (3472328296227680304 : Int64)) <<< (((8 : Int32) * ((8 : Int32) - pC)) &&& 0x3f).toInt64)), .second, .val (.long ((((jW - (3472328296227680304 : Int64)) <<< (((8 : Int32) * ((8 : Int32) - pC)) &&& 0x3f).toInt64) * (10 : Int64)) + ((((jW - (3472328296227680304 : Int64)) <<< (((8 : Int32) * ((8 : Int32) - pC)) &&& 0x3f).toInt64).toUInt64 >>> ((8 : Int32) &&& 0x3f).toInt64.toUInt64).toInt64))), .second, .unset, .unset] [(.long (((((jW - (3472328296227680304 : Int64)) <<< (((8 : Int32) * ((8 : Int32) - pC)) &&& 0x3f).toInt64) * (10 : Int64)) + ((((jW - (3472328296227680304 : Int64)) <<< (((8 : Int32) * ((8 : Int32) - pC)) &&& 0x3f).toInt64).toUInt64 >>> ((8 : Int32) &&& 0x3f).toInt64.toUInt64).toInt64)) &&& (1095216660735 : Int64)))]))
  refine own_back ?_ (fun t k => X1.ldc2Long hx hown (mvT hZ (hw _ (List.mem_of_getElem? (i := 19) rfl))) (g := (mkF m 32 #[.val (.long jW), .second, .val (.int pC), .val (.long ((jW - (3472328296227680304 : Int64)) <<< (((8 : Int32) * ((8 : Int32) - pC)) &&& 0x3f).toInt64)), .second, .val (.long ((((jW - (3472328296227680304 : Int64)) <<< (((8 : Int32) * ((8 : Int32) - pC)) &&& 0x3f).toInt64) * (10 : Int64)) + ((((jW - (3472328296227680304 : Int64)) <<< (((8 : Int32) * ((8 : Int32) - pC)) &&& 0x3f).toInt64).toUInt64 >>> ((8 : Int32) &&& 0x3f).toInt64.toUInt64).toInt64))), .second, .unset, .unset] [(.long (((((jW - (3472328296227680304 : Int64)) <<< (((8 : Int32) * ((8 : Int32) - pC)) &&& 0x3f).toInt64) * (10 : Int64)) + ((((jW - (3472328296227680304 : Int64)) <<< (((8 : Int32) * ((8 : Int32) - pC)) &&& 0x3f).toInt64).toUInt64 >>> ((8 : Int32) &&& 0x3f).toInt64.toUInt64).toInt64)) &&& (1095216660735 : Int64)))])) rfl (hb hby d2_32) _ k)
  show own_Go p e below PO (T1.setTop (mkF m 35 #[.val (.long jW), .second, .val (.int pC), .val (.long ((jW - (3472328296227680304 : Int64)) <<< (((8 : Int32) * ((8 : Int32) - pC)) &&& 0x3f).toInt64)), .second, .val (.long ((((jW - (3472328296227680304 : Int64)) <<< (((8 : Int32) * ((8 : Int32) - pC)) &&& 0x3f).toInt64) * (10 : Int64)) + ((((jW - (3472328296227680304 : Int64)) <<< (((8 : Int32) * ((8 : Int32) - pC)) &&& 0x3f).toInt64).toUInt64 >>> ((8 : Int32) &&& 0x3f).toInt64.toUInt64).toInt64))), .second, .unset, .unset] [(.long (4294967296000100 : Int64)), (.long (((((jW - (3472328296227680304 : Int64)) <<< (((8 : Int32) * ((8 : Int32) - pC)) &&& 0x3f).toInt64) * (10 : Int64)) + ((((jW - (3472328296227680304 : Int64)) <<< (((8 : Int32) * ((8 : Int32) - pC)) &&& 0x3f).toInt64).toUInt64 >>> ((8 : Int32) &&& 0x3f).toInt64.toUInt64).toInt64)) &&& (1095216660735 : Int64)))]))
  refine own_back ?_ (fun t k => XS.lmul X1.here hx rfl (hb hby d2_35) rfl k)
  show own_Go p e below PO (T1.setTop (mkF m 36 #[.val (.long jW), .second, .val (.int pC), .val (.long ((jW - (3472328296227680304 : Int64)) <<< (((8 : Int32) * ((8 : Int32) - pC)) &&& 0x3f).toInt64)), .second, .val (.long ((((jW - (3472328296227680304 : Int64)) <<< (((8 : Int32) * ((8 : Int32) - pC)) &&& 0x3f).toInt64) * (10 : Int64)) + ((((jW - (3472328296227680304 : Int64)) <<< (((8 : Int32) * ((8 : Int32) - pC)) &&& 0x3f).toInt64).toUInt64 >>> ((8 : Int32) &&& 0x3f).toInt64.toUInt64).toInt64))), .second, .unset, .unset] [(.long ((((((jW - (3472328296227680304 : Int64)) <<< (((8 : Int32) * ((8 : Int32) - pC)) &&& 0x3f).toInt64) * (10 : Int64)) + ((((jW - (3472328296227680304 : Int64)) <<< (((8 : Int32) * ((8 : Int32) - pC)) &&& 0x3f).toInt64).toUInt64 >>> ((8 : Int32) &&& 0x3f).toInt64.toUInt64).toInt64)) &&& (1095216660735 : Int64)) * (4294967296000100 : Int64)))]))
  refine own_back ?_ (fun t k => XS.lstore X1.here hx rfl (hb hby d2_36) rfl (l' := #[.val (.long jW), .second, .val (.int pC), .val (.long ((jW - (3472328296227680304 : Int64)) <<< (((8 : Int32) * ((8 : Int32) - pC)) &&& 0x3f).toInt64)), .second, .val (.long ((((jW - (3472328296227680304 : Int64)) <<< (((8 : Int32) * ((8 : Int32) - pC)) &&& 0x3f).toInt64) * (10 : Int64)) + ((((jW - (3472328296227680304 : Int64)) <<< (((8 : Int32) * ((8 : Int32) - pC)) &&& 0x3f).toInt64).toUInt64 >>> ((8 : Int32) &&& 0x3f).toInt64.toUInt64).toInt64))), .second, .val (.long ((((((jW - (3472328296227680304 : Int64)) <<< (((8 : Int32) * ((8 : Int32) - pC)) &&& 0x3f).toInt64) * (10 : Int64)) + ((((jW - (3472328296227680304 : Int64)) <<< (((8 : Int32) * ((8 : Int32) - pC)) &&& 0x3f).toInt64).toUInt64 >>> ((8 : Int32) &&& 0x3f).toInt64.toUInt64).toInt64)) &&& (1095216660735 : Int64)) * (4294967296000100 : Int64))), .second]) rfl k)
  show own_Go p e below PO (T1.setTop (mkF m 38 #[.val (.long jW), .second, .val (.int pC), .val (.long ((jW - (3472328296227680304 : Int64)) <<< (((8 : Int32) * ((8 : Int32) - pC)) &&& 0x3f).toInt64)), .second, .val (.long ((((jW - (3472328296227680304 : Int64)) <<< (((8 : Int32) * ((8 : Int32) - pC)) &&& 0x3f).toInt64) * (10 : Int64)) + ((((jW - (3472328296227680304 : Int64)) <<< (((8 : Int32) * ((8 : Int32) - pC)) &&& 0x3f).toInt64).toUInt64 >>> ((8 : Int32) &&& 0x3f).toInt64.toUInt64).toInt64))), .second, .val (.long ((((((jW - (3472328296227680304 : Int64)) <<< (((8 : Int32) * ((8 : Int32) - pC)) &&& 0x3f).toInt64) * (10 : Int64)) + ((((jW - (3472328296227680304 : Int64)) <<< (((8 : Int32) * ((8 : Int32) - pC)) &&& 0x3f).toInt64).toUInt64 >>> ((8 : Int32) &&& 0x3f).toInt64.toUInt64).toInt64)) &&& (1095216660735 : Int64)) * (4294967296000100 : Int64))), .second] []))
  refine own_back ?_ (fun t k => XS.lload X1.here hx rfl (hb hby d2_38) rfl k)
  show own_Go p e below PO (T1.setTop (mkF m 40 #[.val (.long jW), .second, .val (.int pC), .val (.long ((jW - (3472328296227680304 : Int64)) <<< (((8 : Int32) * ((8 : Int32) - pC)) &&& 0x3f).toInt64)), .second, .val (.long ((((jW - (3472328296227680304 : Int64)) <<< (((8 : Int32) * ((8 : Int32) - pC)) &&& 0x3f).toInt64) * (10 : Int64)) + ((((jW - (3472328296227680304 : Int64)) <<< (((8 : Int32) * ((8 : Int32) - pC)) &&& 0x3f).toInt64).toUInt64 >>> ((8 : Int32) &&& 0x3f).toInt64.toUInt64).toInt64))), .second, .val (.long ((((((jW - (3472328296227680304 : Int64)) <<< (((8 : Int32) * ((8 : Int32) - pC)) &&& 0x3f).toInt64) * (10 : Int64)) + ((((jW - (3472328296227680304 : Int64)) <<< (((8 : Int32) * ((8 : Int32) - pC)) &&& 0x3f).toInt64).toUInt64 >>> ((8 : Int32) &&& 0x3f).toInt64.toUInt64).toInt64)) &&& (1095216660735 : Int64)) * (4294967296000100 : Int64))), .second] [(.long ((((((jW - (3472328296227680304 : Int64)) <<< (((8 : Int32) * ((8 : Int32) - pC)) &&& 0x3f).toInt64) * (10 : Int64)) + ((((jW - (3472328296227680304 : Int64)) <<< (((8 : Int32) * ((8 : Int32) - pC)) &&& 0x3f).toInt64).toUInt64 >>> ((8 : Int32) &&& 0x3f).toInt64.toUInt64).toInt64)) &&& (1095216660735 : Int64)) * (4294967296000100 : Int64)))]))
  refine own_back ?_ (fun t k => XS.lload X1.here hx rfl (hb hby d2_40) rfl k)
  show own_Go p e below PO (T1.setTop (mkF m 42 #[.val (.long jW), .second, .val (.int pC), .val (.long ((jW - (3472328296227680304 : Int64)) <<< (((8 : Int32) * ((8 : Int32) - pC)) &&& 0x3f).toInt64)), .second, .val (.long ((((jW - (3472328296227680304 : Int64)) <<< (((8 : Int32) * ((8 : Int32) - pC)) &&& 0x3f).toInt64) * (10 : Int64)) + ((((jW - (3472328296227680304 : Int64)) <<< (((8 : Int32) * ((8 : Int32) - pC)) &&& 0x3f).toInt64).toUInt64 >>> ((8 : Int32) &&& 0x3f).toInt64.toUInt64).toInt64))), .second, .val (.long ((((((jW - (3472328296227680304 : Int64)) <<< (((8 : Int32) * ((8 : Int32) - pC)) &&& 0x3f).toInt64) * (10 : Int64)) + ((((jW - (3472328296227680304 : Int64)) <<< (((8 : Int32) * ((8 : Int32) - pC)) &&& 0x3f).toInt64).toUInt64 >>> ((8 : Int32) &&& 0x3f).toInt64.toUInt64).toInt64)) &&& (1095216660735 : Int64)) * (4294967296000100 : Int64))), .second] [(.long ((((jW - (3472328296227680304 : Int64)) <<< (((8 : Int32) * ((8 : Int32) - pC)) &&& 0x3f).toInt64) * (10 : Int64)) + ((((jW - (3472328296227680304 : Int64)) <<< (((8 : Int32) * ((8 : Int32) - pC)) &&& 0x3f).toInt64).toUInt64 >>> ((8 : Int32) &&& 0x3f).toInt64.toUInt64).toInt64))), (.long ((((((jW - (3472328296227680304 : Int64)) <<< (((8 : Int32) * ((8 : Int32) - pC)) &&& 0x3f).toInt64) * (10 : Int64)) + ((((jW - (3472328296227680304 : Int64)) <<< (((8 : Int32) * ((8 : Int32) - pC)) &&& 0x3f).toInt64).toUInt64 >>> ((8 : Int32) &&& 0x3f).toInt64.toUInt64).toInt64)) &&& (1095216660735 : Int64)) * (4294967296000100 : Int64)))]))
  refine own_back ?_ (fun t k => XS.bipush X1.here hx rfl (hb hby d2_42) k)
  show own_Go p e below PO (T1.setTop (mkF m 44 #[.val (.long jW), .second, .val (.int pC), .val (.long ((jW - (3472328296227680304 : Int64)) <<< (((8 : Int32) * ((8 : Int32) - pC)) &&& 0x3f).toInt64)), .second, .val (.long ((((jW - (3472328296227680304 : Int64)) <<< (((8 : Int32) * ((8 : Int32) - pC)) &&& 0x3f).toInt64) * (10 : Int64)) + ((((jW - (3472328296227680304 : Int64)) <<< (((8 : Int32) * ((8 : Int32) - pC)) &&& 0x3f).toInt64).toUInt64 >>> ((8 : Int32) &&& 0x3f).toInt64.toUInt64).toInt64))), .second, .val (.long ((((((jW - (3472328296227680304 : Int64)) <<< (((8 : Int32) * ((8 : Int32) - pC)) &&& 0x3f).toInt64) * (10 : Int64)) + ((((jW - (3472328296227680304 : Int64)) <<< (((8 : Int32) * ((8 : Int32) - pC)) &&& 0x3f).toInt64).toUInt64 >>> ((8 : Int32) &&& 0x3f).toInt64.toUInt64).toInt64)) &&& (1095216660735 : Int64)) * (4294967296000100 : Int64))), .second] [(.int (16 : Int32)), (.long ((((jW - (3472328296227680304 : Int64)) <<< (((8 : Int32) * ((8 : Int32) - pC)) &&& 0x3f).toInt64) * (10 : Int64)) + ((((jW - (3472328296227680304 : Int64)) <<< (((8 : Int32) * ((8 : Int32) - pC)) &&& 0x3f).toInt64).toUInt64 >>> ((8 : Int32) &&& 0x3f).toInt64.toUInt64).toInt64))), (.long ((((((jW - (3472328296227680304 : Int64)) <<< (((8 : Int32) * ((8 : Int32) - pC)) &&& 0x3f).toInt64) * (10 : Int64)) + ((((jW - (3472328296227680304 : Int64)) <<< (((8 : Int32) * ((8 : Int32) - pC)) &&& 0x3f).toInt64).toUInt64 >>> ((8 : Int32) &&& 0x3f).toInt64.toUInt64).toInt64)) &&& (1095216660735 : Int64)) * (4294967296000100 : Int64)))]))
  refine own_back ?_ (fun t k => XS.lushr X1.here hx rfl (hb hby d2_44) rfl k)
  show own_Go p e below PO (T1.setTop (mkF m 45 #[.val (.long jW), .second, .val (.int pC), .val (.long ((jW - (3472328296227680304 : Int64)) <<< (((8 : Int32) * ((8 : Int32) - pC)) &&& 0x3f).toInt64)), .second, .val (.long ((((jW - (3472328296227680304 : Int64)) <<< (((8 : Int32) * ((8 : Int32) - pC)) &&& 0x3f).toInt64) * (10 : Int64)) + ((((jW - (3472328296227680304 : Int64)) <<< (((8 : Int32) * ((8 : Int32) - pC)) &&& 0x3f).toInt64).toUInt64 >>> ((8 : Int32) &&& 0x3f).toInt64.toUInt64).toInt64))), .second, .val (.long ((((((jW - (3472328296227680304 : Int64)) <<< (((8 : Int32) * ((8 : Int32) - pC)) &&& 0x3f).toInt64) * (10 : Int64)) + ((((jW - (3472328296227680304 : Int64)) <<< (((8 : Int32) * ((8 : Int32) - pC)) &&& 0x3f).toInt64).toUInt64 >>> ((8 : Int32) &&& 0x3f).toInt64.toUInt64).toInt64)) &&& (1095216660735 : Int64)) * (4294967296000100 : Int64))), .second] [(.long ((((((jW - (3472328296227680304 : Int64)) <<< (((8 : Int32) * ((8 : Int32) - pC)) &&& 0x3f).toInt64) * (10 : Int64)) + ((((jW - (3472328296227680304 : Int64)) <<< (((8 : Int32) * ((8 : Int32) - pC)) &&& 0x3f).toInt64).toUInt64 >>> ((8 : Int32) &&& 0x3f).toInt64.toUInt64).toInt64)).toUInt64 >>> ((16 : Int32) &&& 0x3f).toInt64.toUInt64).toInt64)), (.long ((((((jW - (3472328296227680304 : Int64)) <<< (((8 : Int32) * ((8 : Int32) - pC)) &&& 0x3f).toInt64) * (10 : Int64)) + ((((jW - (3472328296227680304 : Int64)) <<< (((8 : Int32) * ((8 : Int32) - pC)) &&& 0x3f).toInt64).toUInt64 >>> ((8 : Int32) &&& 0x3f).toInt64.toUInt64).toInt64)) &&& (1095216660735 : Int64)) * (4294967296000100 : Int64)))]))
  refine own_back ?_ (fun t k => X1.ldc2Long hx hown (mvT hZ (hw _ (List.mem_of_getElem? (i := 18) rfl))) (g := (mkF m 45 #[.val (.long jW), .second, .val (.int pC), .val (.long ((jW - (3472328296227680304 : Int64)) <<< (((8 : Int32) * ((8 : Int32) - pC)) &&& 0x3f).toInt64)), .second, .val (.long ((((jW - (3472328296227680304 : Int64)) <<< (((8 : Int32) * ((8 : Int32) - pC)) &&& 0x3f).toInt64) * (10 : Int64)) + ((((jW - (3472328296227680304 : Int64)) <<< (((8 : Int32) * ((8 : Int32) - pC)) &&& 0x3f).toInt64).toUInt64 >>> ((8 : Int32) &&& 0x3f).toInt64.toUInt64).toInt64))), .second, .val (.long ((((((jW - (3472328296227680304 : Int64)) <<< (((8 : Int32) * ((8 : Int32) - pC)) &&& 0x3f).toInt64) * (10 : Int64)) + ((((jW - (3472328296227680304 : Int64)) <<< (((8 : Int32) * ((8 : Int32) - pC)) &&& 0x3f).toInt64).toUInt64 >>> ((8 : Int32) &&& 0x3f).toInt64.toUInt64).toInt64)) &&& (1095216660735 : Int64)) * (4294967296000100 : Int64))), .second] [(.long ((((((jW - (3472328296227680304 : Int64)) <<< (((8 : Int32) * ((8 : Int32) - pC)) &&& 0x3f).toInt64) * (10 : Int64)) + ((((jW - (3472328296227680304 : Int64)) <<< (((8 : Int32) * ((8 : Int32) - pC)) &&& 0x3f).toInt64).toUInt64 >>> ((8 : Int32) &&& 0x3f).toInt64.toUInt64).toInt64)).toUInt64 >>> ((16 : Int32) &&& 0x3f).toInt64.toUInt64).toInt64)), (.long ((((((jW - (3472328296227680304 : Int64)) <<< (((8 : Int32) * ((8 : Int32) - pC)) &&& 0x3f).toInt64) * (10 : Int64)) + ((((jW - (3472328296227680304 : Int64)) <<< (((8 : Int32) * ((8 : Int32) - pC)) &&& 0x3f).toInt64).toUInt64 >>> ((8 : Int32) &&& 0x3f).toInt64.toUInt64).toInt64)) &&& (1095216660735 : Int64)) * (4294967296000100 : Int64)))])) rfl (hb hby d2_45) _ k)
  show own_Go p e below PO (T1.setTop (mkF m 48 #[.val (.long jW), .second, .val (.int pC), .val (.long ((jW - (3472328296227680304 : Int64)) <<< (((8 : Int32) * ((8 : Int32) - pC)) &&& 0x3f).toInt64)), .second, .val (.long ((((jW - (3472328296227680304 : Int64)) <<< (((8 : Int32) * ((8 : Int32) - pC)) &&& 0x3f).toInt64) * (10 : Int64)) + ((((jW - (3472328296227680304 : Int64)) <<< (((8 : Int32) * ((8 : Int32) - pC)) &&& 0x3f).toInt64).toUInt64 >>> ((8 : Int32) &&& 0x3f).toInt64.toUInt64).toInt64))), .second, .val (.long ((((((jW - (3472328296227680304 : Int64)) <<< (((8 : Int32) * ((8 : Int32) - pC)) &&& 0x3f).toInt64) * (10 : Int64)) + ((((jW - (3472328296227680304 : Int64)) <<< (((8 : Int32) * ((8 : Int32) - pC)) &&& 0x3f).toInt64).toUInt64 >>> ((8 : Int32) &&& 0x3f).toInt64.toUInt64).toInt64)) &&& (1095216660735 : Int64)) * (4294967296000100 : Int64))), .second] [(.long (1095216660735 : Int64)), (.long ((((((jW - (3472328296227680304 : Int64)) <<< (((8 : Int32) * ((8 : Int32) - pC)) &&& 0x3f).toInt64) * (10 : Int64)) + ((((jW - (3472328296227680304 : Int64)) <<< (((8 : Int32) * ((8 : Int32) - pC)) &&& 0x3f).toInt64).toUInt64 >>> ((8 : Int32) &&& 0x3f).toInt64.toUInt64).toInt64)).toUInt64 >>> ((16 : Int32) &&& 0x3f).toInt64.toUInt64).toInt64)), (.long ((((((jW - (3472328296227680304 : Int64)) <<< (((8 : Int32) * ((8 : Int32) - pC)) &&& 0x3f).toInt64) * (10 : Int64)) + ((((jW - (3472328296227680304 : Int64)) <<< (((8 : Int32) * ((8 : Int32) - pC)) &&& 0x3f).toInt64).toUInt64 >>> ((8 : Int32) &&& 0x3f).toInt64.toUInt64).toInt64)) &&& (1095216660735 : Int64)) * (4294967296000100 : Int64)))]))
  refine own_back ?_ (fun t k => XS.land X1.here hx rfl (hb hby d2_48) rfl k)
  show own_Go p e below PO (T1.setTop (mkF m 49 #[.val (.long jW), .second, .val (.int pC), .val (.long ((jW - (3472328296227680304 : Int64)) <<< (((8 : Int32) * ((8 : Int32) - pC)) &&& 0x3f).toInt64)), .second, .val (.long ((((jW - (3472328296227680304 : Int64)) <<< (((8 : Int32) * ((8 : Int32) - pC)) &&& 0x3f).toInt64) * (10 : Int64)) + ((((jW - (3472328296227680304 : Int64)) <<< (((8 : Int32) * ((8 : Int32) - pC)) &&& 0x3f).toInt64).toUInt64 >>> ((8 : Int32) &&& 0x3f).toInt64.toUInt64).toInt64))), .second, .val (.long ((((((jW - (3472328296227680304 : Int64)) <<< (((8 : Int32) * ((8 : Int32) - pC)) &&& 0x3f).toInt64) * (10 : Int64)) + ((((jW - (3472328296227680304 : Int64)) <<< (((8 : Int32) * ((8 : Int32) - pC)) &&& 0x3f).toInt64).toUInt64 >>> ((8 : Int32) &&& 0x3f).toInt64.toUInt64).toInt64)) &&& (1095216660735 : Int64)) * (4294967296000100 : Int64))), .second] [(.long (((((((jW - (3472328296227680304 : Int64)) <<< (((8 : Int32) * ((8 : Int32) - pC)) &&& 0x3f).toInt64) * (10 : Int64)) + ((((jW - (3472328296227680304 : Int64)) <<< (((8 : Int32) * ((8 : Int32) - pC)) &&& 0x3f).toInt64).toUInt64 >>> ((8 : Int32) &&& 0x3f).toInt64.toUInt64).toInt64)).toUInt64 >>> ((16 : Int32) &&& 0x3f).toInt64.toUInt64).toInt64) &&& (1095216660735 : Int64))), (.long ((((((jW - (3472328296227680304 : Int64)) <<< (((8 : Int32) * ((8 : Int32) - pC)) &&& 0x3f).toInt64) * (10 : Int64)) + ((((jW - (3472328296227680304 : Int64)) <<< (((8 : Int32) * ((8 : Int32) - pC)) &&& 0x3f).toInt64).toUInt64 >>> ((8 : Int32) &&& 0x3f).toInt64.toUInt64).toInt64)) &&& (1095216660735 : Int64)) * (4294967296000100 : Int64)))]))
  refine own_back ?_ (fun t k => X1.ldc2Long hx hown (mvT hZ (hw _ (List.mem_of_getElem? (i := 20) rfl))) (g := (mkF m 49 #[.val (.long jW), .second, .val (.int pC), .val (.long ((jW - (3472328296227680304 : Int64)) <<< (((8 : Int32) * ((8 : Int32) - pC)) &&& 0x3f).toInt64)), .second, .val (.long ((((jW - (3472328296227680304 : Int64)) <<< (((8 : Int32) * ((8 : Int32) - pC)) &&& 0x3f).toInt64) * (10 : Int64)) + ((((jW - (3472328296227680304 : Int64)) <<< (((8 : Int32) * ((8 : Int32) - pC)) &&& 0x3f).toInt64).toUInt64 >>> ((8 : Int32) &&& 0x3f).toInt64.toUInt64).toInt64))), .second, .val (.long ((((((jW - (3472328296227680304 : Int64)) <<< (((8 : Int32) * ((8 : Int32) - pC)) &&& 0x3f).toInt64) * (10 : Int64)) + ((((jW - (3472328296227680304 : Int64)) <<< (((8 : Int32) * ((8 : Int32) - pC)) &&& 0x3f).toInt64).toUInt64 >>> ((8 : Int32) &&& 0x3f).toInt64.toUInt64).toInt64)) &&& (1095216660735 : Int64)) * (4294967296000100 : Int64))), .second] [(.long (((((((jW - (3472328296227680304 : Int64)) <<< (((8 : Int32) * ((8 : Int32) - pC)) &&& 0x3f).toInt64) * (10 : Int64)) + ((((jW - (3472328296227680304 : Int64)) <<< (((8 : Int32) * ((8 : Int32) - pC)) &&& 0x3f).toInt64).toUInt64 >>> ((8 : Int32) &&& 0x3f).toInt64.toUInt64).toInt64)).toUInt64 >>> ((16 : Int32) &&& 0x3f).toInt64.toUInt64).toInt64) &&& (1095216660735 : Int64))), (.long ((((((jW - (3472328296227680304 : Int64)) <<< (((8 : Int32) * ((8 : Int32) - pC)) &&& 0x3f).toInt64) * (10 : Int64)) + ((((jW - (3472328296227680304 : Int64)) <<< (((8 : Int32) * ((8 : Int32) - pC)) &&& 0x3f).toInt64).toUInt64 >>> ((8 : Int32) &&& 0x3f).toInt64.toUInt64).toInt64)) &&& (1095216660735 : Int64)) * (4294967296000100 : Int64)))])) rfl (hb hby d2_49) _ k)
  show own_Go p e below PO (T1.setTop (mkF m 52 #[.val (.long jW), .second, .val (.int pC), .val (.long ((jW - (3472328296227680304 : Int64)) <<< (((8 : Int32) * ((8 : Int32) - pC)) &&& 0x3f).toInt64)), .second, .val (.long ((((jW - (3472328296227680304 : Int64)) <<< (((8 : Int32) * ((8 : Int32) - pC)) &&& 0x3f).toInt64) * (10 : Int64)) + ((((jW - (3472328296227680304 : Int64)) <<< (((8 : Int32) * ((8 : Int32) - pC)) &&& 0x3f).toInt64).toUInt64 >>> ((8 : Int32) &&& 0x3f).toInt64.toUInt64).toInt64))), .second, .val (.long ((((((jW - (3472328296227680304 : Int64)) <<< (((8 : Int32) * ((8 : Int32) - pC)) &&& 0x3f).toInt64) * (10 : Int64)) + ((((jW - (3472328296227680304 : Int64)) <<< (((8 : Int32) * ((8 : Int32) - pC)) &&& 0x3f).toInt64).toUInt64 >>> ((8 : Int32) &&& 0x3f).toInt64.toUInt64).toInt64)) &&& (1095216660735 : Int64)) * (4294967296000100 : Int64))), .second] [(.long (42949672960001 : Int64)), (.long (((((((jW - (3472328296227680304 : Int64)) <<< (((8 : Int32) * ((8 : Int32) - pC)) &&& 0x3f).toInt64) * (10 : Int64)) + ((((jW - (3472328296227680304 : Int64)) <<< (((8 : Int32) * ((8 : Int32) - pC)) &&& 0x3f).toInt64).toUInt64 >>> ((8 : Int32) &&& 0x3f).toInt64.toUInt64).toInt64)).toUInt64 >>> ((16 : Int32) &&& 0x3f).toInt64.toUInt64).toInt64) &&& (1095216660735 : Int64))), (.long ((((((jW - (3472328296227680304 : Int64)) <<< (((8 : Int32) * ((8 : Int32) - pC)) &&& 0x3f).toInt64) * (10 : Int64)) + ((((jW - (3472328296227680304 : Int64)) <<< (((8 : Int32) * ((8 : Int32) - pC)) &&& 0x3f).toInt64).toUInt64 >>> ((8 : Int32) &&& 0x3f).toInt64.toUInt64).toInt64)) &&& (1095216660735 : Int64)) * (4294967296000100 : Int64)))]))
  refine own_back ?_ (fun t k => XS.lmul X1.here hx rfl (hb hby d2_52) rfl k)
  show own_Go p e below PO (T1.setTop (mkF m 53 #[.val (.long jW), .second, .val (.int pC), .val (.long ((jW - (3472328296227680304 : Int64)) <<< (((8 : Int32) * ((8 : Int32) - pC)) &&& 0x3f).toInt64)), .second, .val (.long ((((jW - (3472328296227680304 : Int64)) <<< (((8 : Int32) * ((8 : Int32) - pC)) &&& 0x3f).toInt64) * (10 : Int64)) + ((((jW - (3472328296227680304 : Int64)) <<< (((8 : Int32) * ((8 : Int32) - pC)) &&& 0x3f).toInt64).toUInt64 >>> ((8 : Int32) &&& 0x3f).toInt64.toUInt64).toInt64))), .second, .val (.long ((((((jW - (3472328296227680304 : Int64)) <<< (((8 : Int32) * ((8 : Int32) - pC)) &&& 0x3f).toInt64) * (10 : Int64)) + ((((jW - (3472328296227680304 : Int64)) <<< (((8 : Int32) * ((8 : Int32) - pC)) &&& 0x3f).toInt64).toUInt64 >>> ((8 : Int32) &&& 0x3f).toInt64.toUInt64).toInt64)) &&& (1095216660735 : Int64)) * (4294967296000100 : Int64))), .second] [(.long ((((((((jW - (3472328296227680304 : Int64)) <<< (((8 : Int32) * ((8 : Int32) - pC)) &&& 0x3f).toInt64) * (10 : Int64)) + ((((jW - (3472328296227680304 : Int64)) <<< (((8 : Int32) * ((8 : Int32) - pC)) &&& 0x3f).toInt64).toUInt64 >>> ((8 : Int32) &&& 0x3f).toInt64.toUInt64).toInt64)).toUInt64 >>> ((16 : Int32) &&& 0x3f).toInt64.toUInt64).toInt64) &&& (1095216660735 : Int64)) * (42949672960001 : Int64))), (.long ((((((jW - (3472328296227680304 : Int64)) <<< (((8 : Int32) * ((8 : Int32) - pC)) &&& 0x3f).toInt64) * (10 : Int64)) + ((((jW - (3472328296227680304 : Int64)) <<< (((8 : Int32) * ((8 : Int32) - pC)) &&& 0x3f).toInt64).toUInt64 >>> ((8 : Int32) &&& 0x3f).toInt64.toUInt64).toInt64)) &&& (1095216660735 : Int64)) * (4294967296000100 : Int64)))]))
  refine own_back ?_ (fun t k => XS.ladd X1.here hx rfl (hb hby d2_53) rfl k)
  show own_Go p e below PO (T1.setTop (mkF m 54 #[.val (.long jW), .second, .val (.int pC), .val (.long ((jW - (3472328296227680304 : Int64)) <<< (((8 : Int32) * ((8 : Int32) - pC)) &&& 0x3f).toInt64)), .second, .val (.long ((((jW - (3472328296227680304 : Int64)) <<< (((8 : Int32) * ((8 : Int32) - pC)) &&& 0x3f).toInt64) * (10 : Int64)) + ((((jW - (3472328296227680304 : Int64)) <<< (((8 : Int32) * ((8 : Int32) - pC)) &&& 0x3f).toInt64).toUInt64 >>> ((8 : Int32) &&& 0x3f).toInt64.toUInt64).toInt64))), .second, .val (.long ((((((jW - (3472328296227680304 : Int64)) <<< (((8 : Int32) * ((8 : Int32) - pC)) &&& 0x3f).toInt64) * (10 : Int64)) + ((((jW - (3472328296227680304 : Int64)) <<< (((8 : Int32) * ((8 : Int32) - pC)) &&& 0x3f).toInt64).toUInt64 >>> ((8 : Int32) &&& 0x3f).toInt64.toUInt64).toInt64)) &&& (1095216660735 : Int64)) * (4294967296000100 : Int64))), .second] [(.long (((((((jW - (3472328296227680304 : Int64)) <<< (((8 : Int32) * ((8 : Int32) - pC)) &&& 0x3f).toInt64) * (10 : Int64)) + ((((jW - (3472328296227680304 : Int64)) <<< (((8 : Int32) * ((8 : Int32) - pC)) &&& 0x3f).toInt64).toUInt64 >>> ((8 : Int32) &&& 0x3f).toInt64.toUInt64).toInt64)) &&& (1095216660735 : Int64)) * (4294967296000100 : Int64)) + ((((((((jW - (3472328296227680304 : Int64)) <<< (((8 : Int32) * ((8 : Int32) - pC)) &&& 0x3f).toInt64) * (10 : Int64)) + ((((jW - (3472328296227680304 : Int64)) <<< (((8 : Int32) * ((8 : Int32) - pC)) &&& 0x3f).toInt64).toUInt64 >>> ((8 : Int32) &&& 0x3f).toInt64.toUInt64).toInt64)).toUInt64 >>> ((16 : Int32) &&& 0x3f).toInt64.toUInt64).toInt64) &&& (1095216660735 : Int64)) * (42949672960001 : Int64))))]))
  refine own_back ?_ (fun t k => XS.bipush X1.here hx rfl (hb hby d2_54) k)
  show own_Go p e below PO (T1.setTop (mkF m 56 #[.val (.long jW), .second, .val (.int pC), .val (.long ((jW - (3472328296227680304 : Int64)) <<< (((8 : Int32) * ((8 : Int32) - pC)) &&& 0x3f).toInt64)), .second, .val (.long ((((jW - (3472328296227680304 : Int64)) <<< (((8 : Int32) * ((8 : Int32) - pC)) &&& 0x3f).toInt64) * (10 : Int64)) + ((((jW - (3472328296227680304 : Int64)) <<< (((8 : Int32) * ((8 : Int32) - pC)) &&& 0x3f).toInt64).toUInt64 >>> ((8 : Int32) &&& 0x3f).toInt64.toUInt64).toInt64))), .second, .val (.long ((((((jW - (3472328296227680304 : Int64)) <<< (((8 : Int32) * ((8 : Int32) - pC)) &&& 0x3f).toInt64) * (10 : Int64)) + ((((jW - (3472328296227680304 : Int64)) <<< (((8 : Int32) * ((8 : Int32) - pC)) &&& 0x3f).toInt64).toUInt64 >>> ((8 : Int32) &&& 0x3f).toInt64.toUInt64).toInt64)) &&& (1095216660735 : Int64)) * (4294967296000100 : Int64))), .second] [(.int (32 : Int32)), (.long (((((((jW - (3472328296227680304 : Int64)) <<< (((8 : Int32) * ((8 : Int32) - pC)) &&& 0x3f).toInt64) * (10 : Int64)) + ((((jW - (3472328296227680304 : Int64)) <<< (((8 : Int32) * ((8 : Int32) - pC)) &&& 0x3f).toInt64).toUInt64 >>> ((8 : Int32) &&& 0x3f).toInt64.toUInt64).toInt64)) &&& (1095216660735 : Int64)) * (4294967296000100 : Int64)) + ((((((((jW - (3472328296227680304 : Int64)) <<< (((8 : Int32) * ((8 : Int32) - pC)) &&& 0x3f).toInt64) * (10 : Int64)) + ((((jW - (3472328296227680304 : Int64)) <<< (((8 : Int32) * ((8 : Int32) - pC)) &&& 0x3f).toInt64).toUInt64 >>> ((8 : Int32) &&& 0x3f).toInt64.toUInt64).toInt64)).toUInt64 >>> ((16 : Int32) &&& 0x3f).toInt64.toUInt64).toInt64) &&& (1095216660735 : Int64)) * (42949672960001 : Int64))))]))
  refine own_back ?_ (fun t k => XS.lushr X1.here hx rfl (hb hby d2_56) rfl k)
  show own_Go p e below PO (T1.setTop (mkF m 57 #[.val (.long jW), .second, .val (.int pC), .val (.long ((jW - (3472328296227680304 : Int64)) <<< (((8 : Int32) * ((8 : Int32) - pC)) &&& 0x3f).toInt64)), .second, .val (.long ((((jW - (3472328296227680304 : Int64)) <<< (((8 : Int32) * ((8 : Int32) - pC)) &&& 0x3f).toInt64) * (10 : Int64)) + ((((jW - (3472328296227680304 : Int64)) <<< (((8 : Int32) * ((8 : Int32) - pC)) &&& 0x3f).toInt64).toUInt64 >>> ((8 : Int32) &&& 0x3f).toInt64.toUInt64).toInt64))), .second, .val (.long ((((((jW - (3472328296227680304 : Int64)) <<< (((8 : Int32) * ((8 : Int32) - pC)) &&& 0x3f).toInt64) * (10 : Int64)) + ((((jW - (3472328296227680304 : Int64)) <<< (((8 : Int32) * ((8 : Int32) - pC)) &&& 0x3f).toInt64).toUInt64 >>> ((8 : Int32) &&& 0x3f).toInt64.toUInt64).toInt64)) &&& (1095216660735 : Int64)) * (4294967296000100 : Int64))), .second] [(.long (((((((((jW - (3472328296227680304 : Int64)) <<< (((8 : Int32) * ((8 : Int32) - pC)) &&& 0x3f).toInt64) * (10 : Int64)) + ((((jW - (3472328296227680304 : Int64)) <<< (((8 : Int32) * ((8 : Int32) - pC)) &&& 0x3f).toInt64).toUInt64 >>> ((8 : Int32) &&& 0x3f).toInt64.toUInt64).toInt64)) &&& (1095216660735 : Int64)) * (4294967296000100 : Int64)) + ((((((((jW - (3472328296227680304 : Int64)) <<< (((8 : Int32) * ((8 : Int32) - pC)) &&& 0x3f).toInt64) * (10 : Int64)) + ((((jW - (3472328296227680304 : Int64)) <<< (((8 : Int32) * ((8 : Int32) - pC)) &&& 0x3f).toInt64).toUInt64 >>> ((8 : Int32) &&& 0x3f).toInt64.toUInt64).toInt64)).toUInt64 >>> ((16 : Int32) &&& 0x3f).toInt64.toUInt64).toInt64) &&& (1095216660735 : Int64)) * (42949672960001 : Int64))).toUInt64 >>> ((32 : Int32) &&& 0x3f).toInt64.toUInt64).toInt64))]))
  refine own_back ?_ (fun t k => XS.l2i X1.here hx rfl (hb hby d2_57) rfl k)
  show own_Go p e below PO (T1.setTop (mkF m 58 #[.val (.long jW), .second, .val (.int pC), .val (.long ((jW - (3472328296227680304 : Int64)) <<< (((8 : Int32) * ((8 : Int32) - pC)) &&& 0x3f).toInt64)), .second, .val (.long ((((jW - (3472328296227680304 : Int64)) <<< (((8 : Int32) * ((8 : Int32) - pC)) &&& 0x3f).toInt64) * (10 : Int64)) + ((((jW - (3472328296227680304 : Int64)) <<< (((8 : Int32) * ((8 : Int32) - pC)) &&& 0x3f).toInt64).toUInt64 >>> ((8 : Int32) &&& 0x3f).toInt64.toUInt64).toInt64))), .second, .val (.long ((((((jW - (3472328296227680304 : Int64)) <<< (((8 : Int32) * ((8 : Int32) - pC)) &&& 0x3f).toInt64) * (10 : Int64)) + ((((jW - (3472328296227680304 : Int64)) <<< (((8 : Int32) * ((8 : Int32) - pC)) &&& 0x3f).toInt64).toUInt64 >>> ((8 : Int32) &&& 0x3f).toInt64.toUInt64).toInt64)) &&& (1095216660735 : Int64)) * (4294967296000100 : Int64))), .second] [(.int ((((((((((jW - (3472328296227680304 : Int64)) <<< (((8 : Int32) * ((8 : Int32) - pC)) &&& 0x3f).toInt64) * (10 : Int64)) + ((((jW - (3472328296227680304 : Int64)) <<< (((8 : Int32) * ((8 : Int32) - pC)) &&& 0x3f).toInt64).toUInt64 >>> ((8 : Int32) &&& 0x3f).toInt64.toUInt64).toInt64)) &&& (1095216660735 : Int64)) * (4294967296000100 : Int64)) + ((((((((jW - (3472328296227680304 : Int64)) <<< (((8 : Int32) * ((8 : Int32) - pC)) &&& 0x3f).toInt64) * (10 : Int64)) + ((((jW - (3472328296227680304 : Int64)) <<< (((8 : Int32) * ((8 : Int32) - pC)) &&& 0x3f).toInt64).toUInt64 >>> ((8 : Int32) &&& 0x3f).toInt64.toUInt64).toInt64)).toUInt64 >>> ((16 : Int32) &&& 0x3f).toInt64.toUInt64).toInt64) &&& (1095216660735 : Int64)) * (42949672960001 : Int64))).toUInt64 >>> ((32 : Int32) &&& 0x3f).toInt64.toUInt64).toInt64).toInt32))]))
  refine own_retI X1 hx (rest := []) Bd.returns (hb hby d2_58) e1 (Bd.notSynchronized) ?_ (by decide) (by decide)
  exact ⟨rfl, N0, rfl⟩
theorem pd_0 : parseMethodDescriptor "(II)J" = some ⟨[.int, .int], some .long⟩ := by decide +kernel
theorem pd_1 : parseMethodDescriptor "(JI)I" = some ⟨[.long, .int], some .int⟩ := by decide +kernel
theorem ef_rm0 (m : MethodId) (x0 : Int32) (x1 : Int32) (x2 : Int32) (x3 : Int64) : entryFrame m #[(.int x0), (.int x1), (.int x2), (.long x3)] maxLocals = mkF m 0 #[.val (.int x0), .val (.int x1), .val (.int x2), .val (.long x3), .second, .unset, .unset, .unset, .unset, .unset, .unset, .unset, .unset, .unset, .unset, .unset] [] := by first | (simp [entryFrame, mkF, argsToLocals, Value.category, maxLocals]; done) | rfl
def Q_rm0 (n0 : Nat) (v : Option Value) (h : Heap) (L : List Loc) : Prop := v = some (.int 1) ∧ Fr n0 L
set_option maxRecDepth 65536 in
set_option maxHeartbeats 40000000 in
theorem rm0 (l : Launch) (Z : State) (a0 : Array Value) (hw : ∀ d ∈ tables_1, d.before a0 Z = true) (ws : List Jvm.Cond) (pA : Int32) (pB : Int32) (pC : Int32) (jR : Int64)  (h0 : Heap) (n0 : Nat) (Z0 : n0 ≤ h0.size) (S_Z : Sta Z h0 "com/example/fillwire/fillwire/wire/Words" "ZEROS" "J" (.long (3472328296227680304 : Int64))) :
    MetFree l x (head1 (Jvm.Cond.code x code maxLocals ret :: ws) room_1) (fun a U => a = #[(.int pA), (.int pB), (.int pC), (.long jR)] ∧ Z.Warmed39 U.vm ∧ U.heap = h0) (fun _ _ _ _ _ => True) (fun _ U o U' => ∃ v L, o = .returned v ∧ Q_rm0 n0 v U'.heap L ∧ FrameEnd U o U' L room_1.cells room_1.slots) := by
  refine MetFree.of_bodySF (plainFor_of_name pn_0) hisR ?_
  intro p e s m args below meth c s₁ Bd hml0 hP hK
  obtain ⟨rfl, hZ, hh⟩ := hP
  have hx := Bd.exec
  have hby := Bd.bytes
  have hml : c.maxLocals = 16 := hml0
  have hown : s.vm.findClass "com/example/fillwire/fillwire/wire/WordsDecimalPinLaw" = some m.cls := findClass_of_methodNamed Bd.named
  have hnm := (name_of_methodNamed Bd.named Bd.method).1
  have X0 : Stand p l e room_1 s m #[(.int pA), (.int pB), (.int pC), (.long jR)] below meth c s₁ [] 0 0 := Stand.of_body Bd
  have e0 : s₁.heap = h0 := by rw [← hh, Bd.state]; rfl
  have N0 := Fr.nil n0
  let PO : Outcome → State → Prop := own_PO s (Q_rm0 n0) 16 128
  show own_Go p e below PO (s₁.setTop (entryFrame m #[(.int pA), (.int pB), (.int pC), (.long jR)] maxLocals))
  rw [ef_rm0]
  show own_Go p e below PO (s₁.setTop (mkF m 0 #[.val (.int pA), .val (.int pB), .val (.int pC), .val (.long jR), .second, .unset, .unset, .unset, .unset, .unset, .unset, .unset, .unset, .unset, .unset, .unset] []))
  refine own_back ?_ (fun t k => XS.iloadN X0.here hx rfl (hb hby at_0) rfl k)
  show own_Go p e below PO (s₁.setTop (mkF m 1 #[.val (.int pA), .val (.int pB), .val (.int pC), .val (.long jR), .second, .unset, .unset, .unset, .unset, .unset, .unset, .unset, .unset, .unset, .unset, .unset] [(.int pA)]))
  refine own_back ?_ (fun t k => X0.ldcInt hx hown (mvT hZ (hw _ (List.mem_of_getElem? (i := 0) rfl))) (g := (mkF m 1 #[.val (.int pA), .val (.int pB), .val (.int pC), .val (.long jR), .second, .unset, .unset, .unset, .unset, .unset, .unset, .unset, .unset, .unset, .unset, .unset] [(.int pA)])) rfl (hb hby at_1) _ k)
  show own_Go p e below PO (s₁.setTop (mkF m 3 #[.val (.int pA), .val (.int pB), .val (.int pC), .val (.long jR), .second, .unset, .unset, .unset, .unset, .unset, .unset, .unset, .unset, .unset, .unset, .unset] [(.int (2147483647 : Int32)), (.int pA)]))
  refine own_back ?_ (fun t k => XS.iand X0.here hx rfl (hb hby at_3) rfl k)
  show own_Go p e below PO (s₁.setTop (mkF m 4 #[.val (.int pA), .val (.int pB), .val (.int pC), .val (.long jR), .second, .unset, .unset, .unset, .unset, .unset, .unset, .unset, .unset, .unset, .unset, .unset] [(.int (pA &&& (2147483647 : Int32)))]))
  refine own_back ?_ (fun t k => XS.sipush X0.here hx rfl (hb hby at_4) k)
  show own_Go p e below PO (s₁.setTop (mkF m 7 #[.val (.int pA), .val (.int pB), .val (.int pC), .val (.long jR), .second, .unset, .unset, .unset, .unset, .unset, .unset, .unset, .unset, .unset, .unset, .unset] [(.int (10000 : Int32)), (.int (pA &&& (2147483647 : Int32)))]))
  refine own_back ?_ (fun t k => iremM X0 hx rfl (hb hby at_7) rfl (by decide) k)
  show own_Go p e below PO (s₁.setTop (mkF m 8 #[.val (.int pA), .val (.int pB), .val (.int pC), .val (.long jR), .second, .unset, .unset, .unset, .unset, .unset, .unset, .unset, .unset, .unset, .unset, .unset] [(.int ((pA &&& (2147483647 : Int32)) % (10000 : Int32)))]))
  refine own_back ?_ (fun t k => XS.istore X0.here hx rfl (hb hby at_8) rfl (l' := #[.val (.int pA), .val (.int pB), .val (.int pC), .val (.long jR), .second, .val (.int ((pA &&& (2147483647 : Int32)) % (10000 : Int32))), .unset, .unset, .unset, .unset, .unset, .unset, .unset, .unset, .unset, .unset]) rfl k)
  show own_Go p e below PO (s₁.setTop (mkF m 10 #[.val (.int pA), .val (.int pB), .val (.int pC), .val (.long jR), .second, .val (.int ((pA &&& (2147483647 : Int32)) % (10000 : Int32))), .unset, .unset, .unset, .unset, .unset, .unset, .unset, .unset, .unset, .unset] []))
  refine own_gen (A := Int32) ((pA &&& (2147483647 : Int32)) % (10000 : Int32)) (fun v5_1 => own_Go p e below PO (s₁.setTop (mkF m 10 #[.val (.int pA), .val (.int pB), .val (.int pC), .val (.long jR), .second, .val (.int v5_1), .unset, .unset, .unset, .unset, .unset, .unset, .unset, .unset, .unset, .unset] []))) ?_
  intro v5_1 h_v5_1
  show own_Go p e below PO (s₁.setTop (mkF m 10 #[.val (.int pA), .val (.int pB), .val (.int pC), .val (.long jR), .second, .val (.int v5_1), .unset, .unset, .unset, .unset, .unset, .unset, .unset, .unset, .unset, .unset] []))
  refine own_back ?_ (fun t k => XS.iloadN X0.here hx rfl (hb hby at_10) rfl k)
  show own_Go p e below PO (s₁.setTop (mkF m 11 #[.val (.int pA), .val (.int pB), .val (.int pC), .val (.long jR), .second, .val (.int v5_1), .unset, .unset, .unset, .unset, .unset, .unset, .unset, .unset, .unset, .unset] [(.int pB)]))
  refine own_back ?_ (fun t k => X0.ldcInt hx hown (mvT hZ (hw _ (List.mem_of_getElem? (i := 0) rfl))) (g := (mkF m 11 #[.val (.int pA), .val (.int pB), .val (.int pC), .val (.long jR), .second, .val (.int v5_1), .unset, .unset, .unset, .unset, .unset, .unset, .unset, .unset, .unset, .unset] [(.int pB)])) rfl (hb hby at_11) _ k)
  show own_Go p e below PO (s₁.setTop (mkF m 13 #[.val (.int pA), .val (.int pB), .val (.int pC), .val (.long jR), .second, .val (.int v5_1), .unset, .unset, .unset, .unset, .unset, .unset, .unset, .unset, .unset, .unset] [(.int (2147483647 : Int32)), (.int pB)]))
  refine own_back ?_ (fun t k => XS.iand X0.here hx rfl (hb hby at_13) rfl k)
  show own_Go p e below PO (s₁.setTop (mkF m 14 #[.val (.int pA), .val (.int pB), .val (.int pC), .val (.long jR), .second, .val (.int v5_1), .unset, .unset, .unset, .unset, .unset, .unset, .unset, .unset, .unset, .unset] [(.int (pB &&& (2147483647 : Int32)))]))
  refine own_back ?_ (fun t k => XS.sipush X0.here hx rfl (hb hby at_14) k)
  show own_Go p e below PO (s₁.setTop (mkF m 17 #[.val (.int pA), .val (.int pB), .val (.int pC), .val (.long jR), .second, .val (.int v5_1), .unset, .unset, .unset, .unset, .unset, .unset, .unset, .unset, .unset, .unset] [(.int (10000 : Int32)), (.int (pB &&& (2147483647 : Int32)))]))
  refine own_back ?_ (fun t k => iremM X0 hx rfl (hb hby at_17) rfl (by decide) k)
  show own_Go p e below PO (s₁.setTop (mkF m 18 #[.val (.int pA), .val (.int pB), .val (.int pC), .val (.long jR), .second, .val (.int v5_1), .unset, .unset, .unset, .unset, .unset, .unset, .unset, .unset, .unset, .unset] [(.int ((pB &&& (2147483647 : Int32)) % (10000 : Int32)))]))
  refine own_back ?_ (fun t k => XS.istore X0.here hx rfl (hb hby at_18) rfl (l' := #[.val (.int pA), .val (.int pB), .val (.int pC), .val (.long jR), .second, .val (.int v5_1), .val (.int ((pB &&& (2147483647 : Int32)) % (10000 : Int32))), .unset, .unset, .unset, .unset, .unset, .unset, .unset, .unset, .unset]) rfl k)
  show own_Go p e below PO (s₁.setTop (mkF m 20 #[.val (.int pA), .val (.int pB), .val (.int pC), .val (.long jR), .second, .val (.int v5_1), .val (.int ((pB &&& (2147483647 : Int32)) % (10000 : Int32))), .unset, .unset, .unset, .unset, .unset, .unset, .unset, .unset, .unset] []))
  refine own_gen (A := Int32) ((pB &&& (2147483647 : Int32)) % (10000 : Int32)) (fun v6_2 => own_Go p e below PO (s₁.setTop (mkF m 20 #[.val (.int pA), .val (.int pB), .val (.int pC), .val (.long jR), .second, .val (.int v5_1), .val (.int v6_2), .unset, .unset, .unset, .unset, .unset, .unset, .unset, .unset, .unset] []))) ?_
  intro v6_2 h_v6_2
  show own_Go p e below PO (s₁.setTop (mkF m 20 #[.val (.int pA), .val (.int pB), .val (.int pC), .val (.long jR), .second, .val (.int v5_1), .val (.int v6_2), .unset, .unset, .unset, .unset, .unset, .unset, .unset, .unset, .unset] []))
  refine own_back ?_ (fun t k => XS.iloadN X0.here hx rfl (hb hby at_20) rfl k)
  show own_Go p e below PO (s₁.setTop (mkF m 21 #[.val (.int pA), .val (.int pB), .val (.int pC), .val (.long jR), .second, .val (.int v5_1), .val (.int v6_2), .unset, .unset, .unset, .unset, .unset, .unset, .unset, .unset, .unset] [(.int pC)]))
  refine own_back ?_ (fun t k => XS.bipush X0.here hx rfl (hb hby at_21) k)
  show own_Go p e below PO (s₁.setTop (mkF m 23 #[.val (.int pA), .val (.int pB), .val (.int pC), .val (.long jR), .second, .val (.int v5_1), .val (.int v6_2), .unset, .unset, .unset, .unset, .unset, .unset, .unset, .unset, .unset] [(.int (7 : Int32)), (.int pC)]))
  refine own_back ?_ (fun t k => XS.iand X0.here hx rfl (hb hby at_23) rfl k)
  show own_Go p e below PO (s₁.setTop (mkF m 24 #[.val (.int pA), .val (.int pB), .val (.int pC), .val (.long jR), .second, .val (.int v5_1), .val (.int v6_2), .unset, .unset, .unset, .unset, .unset, .unset, .unset, .unset, .unset] [(.int (pC &&& (7 : Int32)))]))
  refine own_back ?_ (fun t k => XS.iconst X0.here hx rfl (hb hby at_24) k)
  show own_Go p e below PO (s₁.setTop (mkF m 25 #[.val (.int pA), .val (.int pB), .val (.int pC), .val (.long jR), .second, .val (.int v5_1), .val (.int v6_2), .unset, .unset, .unset, .unset, .unset, .unset, .unset, .unset, .unset] [(.int (1 : Int32)), (.int (pC &&& (7 : Int32)))]))
  refine own_back ?_ (fun t k => XS.iadd X0.here hx rfl (hb hby at_25) rfl k)
  show own_Go p e below PO (s₁.setTop (mkF m 26 #[.val (.int pA), .val (.int pB), .val (.int pC), .val (.long jR), .second, .val (.int v5_1), .val (.int v6_2), .unset, .unset, .unset, .unset, .unset, .unset, .unset, .unset, .unset] [(.int ((pC &&& (7 : Int32)) + (1 : Int32)))]))
  refine own_back ?_ (fun t k => XS.istore X0.here hx rfl (hb hby at_26) rfl (l' := #[.val (.int pA), .val (.int pB), .val (.int pC), .val (.long jR), .second, .val (.int v5_1), .val (.int v6_2), .val (.int ((pC &&& (7 : Int32)) + (1 : Int32))), .unset, .unset, .unset, .unset, .unset, .unset, .unset, .unset]) rfl k)
  show own_Go p e below PO (s₁.setTop (mkF m 28 #[.val (.int pA), .val (.int pB), .val (.int pC), .val (.long jR), .second, .val (.int v5_1), .val (.int v6_2), .val (.int ((pC &&& (7 : Int32)) + (1 : Int32))), .unset, .unset, .unset, .unset, .unset, .unset, .unset, .unset] []))
  refine own_gen (A := Int32) ((pC &&& (7 : Int32)) + (1 : Int32)) (fun v7_3 => own_Go p e below PO (s₁.setTop (mkF m 28 #[.val (.int pA), .val (.int pB), .val (.int pC), .val (.long jR), .second, .val (.int v5_1), .val (.int v6_2), .val (.int v7_3), .unset, .unset, .unset, .unset, .unset, .unset, .unset, .unset] []))) ?_
  intro v7_3 h_v7_3
  show own_Go p e below PO (s₁.setTop (mkF m 28 #[.val (.int pA), .val (.int pB), .val (.int pC), .val (.long jR), .second, .val (.int v5_1), .val (.int v6_2), .val (.int v7_3), .unset, .unset, .unset, .unset, .unset, .unset, .unset, .unset] []))
  refine own_back ?_ (fun t k => XS.iload X0.here hx rfl (hb hby at_28) rfl k)
  show own_Go p e below PO (s₁.setTop (mkF m 30 #[.val (.int pA), .val (.int pB), .val (.int pC), .val (.long jR), .second, .val (.int v5_1), .val (.int v6_2), .val (.int v7_3), .unset, .unset, .unset, .unset, .unset, .unset, .unset, .unset] [(.int v5_1)]))
  refine own_back ?_ (fun t k => XS.sipush X0.here hx rfl (hb hby at_30) k)
  show own_Go p e below PO (s₁.setTop (mkF m 33 #[.val (.int pA), .val (.int pB), .val (.int pC), .val (.long jR), .second, .val (.int v5_1), .val (.int v6_2), .val (.int v7_3), .unset, .unset, .unset, .unset, .unset, .unset, .unset, .unset] [(.int (1000 : Int32)), (.int v5_1)]))
  refine own_back ?_ (fun t k => XS.idiv X0.here hx rfl (hb hby at_33) rfl (by decide) k)
  show own_Go p e below PO (s₁.setTop (mkF m 34 #[.val (.int pA), .val (.int pB), .val (.int pC), .val (.long jR), .second, .val (.int v5_1), .val (.int v6_2), .val (.int v7_3), .unset, .unset, .unset, .unset, .unset, .unset, .unset, .unset] [(.int (v5_1 / (1000 : Int32)))]))
  refine own_back ?_ (fun t k => XS.iconst X0.here hx rfl (hb hby at_34) k)
  show own_Go p e below PO (s₁.setTop (mkF m 35 #[.val (.int pA), .val (.int pB), .val (.int pC), .val (.long jR), .second, .val (.int v5_1), .val (.int v6_2), .val (.int v7_3), .unset, .unset, .unset, .unset, .unset, .unset, .unset, .unset] [(.int (0 : Int32)), (.int (v5_1 / (1000 : Int32)))]))
  obtain ⟨_, _, ⟨T4, L4, k4, n4⟩, -, X4, ⟨Lc4, hQ4, l4, y4, z4⟩, st4⟩ := Jvm.LawKit.callS X0 hx (y := (⟨"com/example/fillwire/fillwire/wire/WordsDecimalPinLaw", "digitByte", "(II)J"⟩ : MethodName)) hown (mvT hZ (hw _ (List.mem_of_getElem? (i := 1) rfl))) (mvT hZ (hw _ (List.mem_of_getElem? (i := 2) rfl))) (mvT hZ (hw _ (List.mem_of_getElem? (i := 3) rfl))) (mvT hZ (hw _ (List.mem_of_getElem? (i := 4) rfl))) (by decide) (backOf (W := 0) (rm1 l Z a0 hw [] (v5_1 / (1000 : Int32)) (0 : Int32)  h0 n0 Z0 ) hZ (hw _ (List.mem_of_getElem? (i := 4) rfl)) (hw _ (List.mem_of_getElem? (i := 3) rfl)) (by decide) (by decide)) (g := (mkF m 35 #[.val (.int pA), .val (.int pB), .val (.int pC), .val (.long jR), .second, .val (.int v5_1), .val (.int v6_2), .val (.int v7_3), .unset, .unset, .unset, .unset, .unset, .unset, .unset, .unset] [(.int (0 : Int32)), (.int (v5_1 / (1000 : Int32)))])) rfl (by rw [hml]; rfl) (argsL := [(.int (v5_1 / (1000 : Int32))), (.int (0 : Int32))]) (rest := []) (lenOf pd_0 rfl) rfl (by show 2 * 0 + _ ≤ _; exact Nat.le_of_eq rfl) (hb hby at_35) (fun _ _ => ⟨rfl, e0, (by decide : 0 + 0 ≤ _), (by decide : 0 + 0 ≤ _)⟩)
  dsimp only [Pt.U, Pt.locs, Pt.cells, Pt.slots] at X4 l4 y4 z4 st4 hQ4
  subst l4 y4 z4
  obtain ⟨rfl, N4q, e4⟩ := hQ4
  have N4 := Fr.app N0 N4q
  refine own_back ?_ st4
  show own_Go p e below PO (T4.setTop (mkF m 38 #[.val (.int pA), .val (.int pB), .val (.int pC), .val (.long jR), .second, .val (.int v5_1), .val (.int v6_2), .val (.int v7_3), .unset, .unset, .unset, .unset, .unset, .unset, .unset, .unset] [(.long (own_db (v5_1 / (1000 : Int32)) (0 : Int32)))]))
  refine own_back ?_ (fun t k => XS.iload X4.here hx rfl (hb hby at_38) rfl k)
  show own_Go p e below PO (T4.setTop (mkF m 40 #[.val (.int pA), .val (.int pB), .val (.int pC), .val (.long jR), .second, .val (.int v5_1), .val (.int v6_2), .val (.int v7_3), .unset, .unset, .unset, .unset, .unset, .unset, .unset, .unset] [(.int v5_1), (.long (own_db (v5_1 / (1000 : Int32)) (0 : Int32)))]))
  refine own_back ?_ (fun t k => XS.bipush X4.here hx rfl (hb hby at_40) k)
  show own_Go p e below PO (T4.setTop (mkF m 42 #[.val (.int pA), .val (.int pB), .val (.int pC), .val (.long jR), .second, .val (.int v5_1), .val (.int v6_2), .val (.int v7_3), .unset, .unset, .unset, .unset, .unset, .unset, .unset, .unset] [(.int (100 : Int32)), (.int v5_1), (.long (own_db (v5_1 / (1000 : Int32)) (0 : Int32)))]))
  refine own_back ?_ (fun t k => XS.idiv X4.here hx rfl (hb hby at_42) rfl (by decide) k)
  show own_Go p e below PO (T4.setTop (mkF m 43 #[.val (.int pA), .val (.int pB), .val (.int pC), .val (.long jR), .second, .val (.int v5_1), .val (.int v6_2), .val (.int v7_3), .unset, .unset, .unset, .unset, .unset, .unset, .unset, .unset] [(.int (v5_1 / (100 : Int32))), (.long (own_db (v5_1 / (1000 : Int32)) (0 : Int32)))]))
  refine own_back ?_ (fun t k => XS.bipush X4.here hx rfl (hb hby at_43) k)
  show own_Go p e below PO (T4.setTop (mkF m 45 #[.val (.int pA), .val (.int pB), .val (.int pC), .val (.long jR), .second, .val (.int v5_1), .val (.int v6_2), .val (.int v7_3), .unset, .unset, .unset, .unset, .unset, .unset, .unset, .unset] [(.int (10 : Int32)), (.int (v5_1 / (100 : Int32))), (.long (own_db (v5_1 / (1000 : Int32)) (0 : Int32)))]))
  refine own_back ?_ (fun t k => iremM X4 hx rfl (hb hby at_45) rfl (by decide) k)
  show own_Go p e below PO (T4.setTop (mkF m 46 #[.val (.int pA), .val (.int pB), .val (.int pC), .val (.long jR), .second, .val (.int v5_1), .val (.int v6_2), .val (.int v7_3), .unset, .unset, .unset, .unset, .unset, .unset, .unset, .unset] [(.int ((v5_1 / (100 : Int32)) % (10 : Int32))), (.long (own_db (v5_1 / (1000 : Int32)) (0 : Int32)))]))
  refine own_back ?_ (fun t k => XS.iconst X4.here hx rfl (hb hby at_46) k)
  show own_Go p e below PO (T4.setTop (mkF m 47 #[.val (.int pA), .val (.int pB), .val (.int pC), .val (.long jR), .second, .val (.int v5_1), .val (.int v6_2), .val (.int v7_3), .unset, .unset, .unset, .unset, .unset, .unset, .unset, .unset] [(.int (1 : Int32)), (.int ((v5_1 / (100 : Int32)) % (10 : Int32))), (.long (own_db (v5_1 / (1000 : Int32)) (0 : Int32)))]))
  obtain ⟨_, _, ⟨T5, L5, k5, n5⟩, -, X5, ⟨Lc5, hQ5, l5, y5, z5⟩, st5⟩ := Jvm.LawKit.callS X4 hx (y := (⟨"com/example/fillwire/fillwire/wire/WordsDecimalPinLaw", "digitByte", "(II)J"⟩ : MethodName)) hown (mvT hZ (hw _ (List.mem_of_getElem? (i := 1) rfl))) (mvT hZ (hw _ (List.mem_of_getElem? (i := 2) rfl))) (mvT hZ (hw _ (List.mem_of_getElem? (i := 3) rfl))) (mvT hZ (hw _ (List.mem_of_getElem? (i := 4) rfl))) (by decide) (backOf (W := 2) (rm1 l Z a0 hw [] ((v5_1 / (100 : Int32)) % (10 : Int32)) (1 : Int32)  h0 n0 Z0 ) hZ (hw _ (List.mem_of_getElem? (i := 4) rfl)) (hw _ (List.mem_of_getElem? (i := 3) rfl)) (by decide) (by decide)) (g := (mkF m 47 #[.val (.int pA), .val (.int pB), .val (.int pC), .val (.long jR), .second, .val (.int v5_1), .val (.int v6_2), .val (.int v7_3), .unset, .unset, .unset, .unset, .unset, .unset, .unset, .unset] [(.int (1 : Int32)), (.int ((v5_1 / (100 : Int32)) % (10 : Int32))), (.long (own_db (v5_1 / (1000 : Int32)) (0 : Int32)))])) rfl (by rw [hml]; rfl) (argsL := [(.int ((v5_1 / (100 : Int32)) % (10 : Int32))), (.int (1 : Int32))]) (rest := [(.long (own_db (v5_1 / (1000 : Int32)) (0 : Int32)))]) (lenOf pd_0 rfl) rfl (by show 2 * 0 + _ ≤ _; exact Nat.le_of_eq rfl) (hb hby at_47) (fun _ _ => ⟨rfl, e4, (by decide : 0 + 0 ≤ _), (by decide : 0 + 0 ≤ _)⟩)
  dsimp only [Pt.U, Pt.locs, Pt.cells, Pt.slots] at X5 l5 y5 z5 st5 hQ5
  subst l5 y5 z5
  obtain ⟨rfl, N5q, e5⟩ := hQ5
  have N5 := Fr.app N4 N5q
  refine own_back ?_ st5
  show own_Go p e below PO (T5.setTop (mkF m 50 #[.val (.int pA), .val (.int pB), .val (.int pC), .val (.long jR), .second, .val (.int v5_1), .val (.int v6_2), .val (.int v7_3), .unset, .unset, .unset, .unset, .unset, .unset, .unset, .unset] [(.long (own_db ((v5_1 / (100 : Int32)) % (10 : Int32)) (1 : Int32))), (.long (own_db (v5_1 / (1000 : Int32)) (0 : Int32)))]))
  refine own_back ?_ (fun t k => XS.lor X5.here hx rfl (hb hby at_50) rfl k)
  show own_Go p e below PO (T5.setTop (mkF m 51 #[.val (.int pA), .val (.int pB), .val (.int pC), .val (.long jR), .second, .val (.int v5_1), .val (.int v6_2), .val (.int v7_3), .unset, .unset, .unset, .unset, .unset, .unset, .unset, .unset] [(.long ((own_db (v5_1 / (1000 : Int32)) (0 : Int32)) ||| (own_db ((v5_1 / (100 : Int32)) % (10 : Int32)) (1 : Int32))))]))
  refine own_back ?_ (fun t k => XS.iload X5.here hx rfl (hb hby at_51) rfl k)
  show own_Go p e below PO (T5.setTop (mkF m 53 #[.val (.int pA), .val (.int pB), .val (.int pC), .val (.long jR), .second, .val (.int v5_1), .val (.int v6_2), .val (.int v7_3), .unset, .unset, .unset, .unset, .unset, .unset, .unset, .unset] [(.int v5_1), (.long ((own_db (v5_1 / (1000 : Int32)) (0 : Int32)) ||| (own_db ((v5_1 / (100 : Int32)) % (10 : Int32)) (1 : Int32))))]))
  refine own_back ?_ (fun t k => XS.bipush X5.here hx rfl (hb hby at_53) k)
  show own_Go p e below PO (T5.setTop (mkF m 55 #[.val (.int pA), .val (.int pB), .val (.int pC), .val (.long jR), .second, .val (.int v5_1), .val (.int v6_2), .val (.int v7_3), .unset, .unset, .unset, .unset, .unset, .unset, .unset, .unset] [(.int (10 : Int32)), (.int v5_1), (.long ((own_db (v5_1 / (1000 : Int32)) (0 : Int32)) ||| (own_db ((v5_1 / (100 : Int32)) % (10 : Int32)) (1 : Int32))))]))
  refine own_back ?_ (fun t k => XS.idiv X5.here hx rfl (hb hby at_55) rfl (by decide) k)
  show own_Go p e below PO (T5.setTop (mkF m 56 #[.val (.int pA), .val (.int pB), .val (.int pC), .val (.long jR), .second, .val (.int v5_1), .val (.int v6_2), .val (.int v7_3), .unset, .unset, .unset, .unset, .unset, .unset, .unset, .unset] [(.int (v5_1 / (10 : Int32))), (.long ((own_db (v5_1 / (1000 : Int32)) (0 : Int32)) ||| (own_db ((v5_1 / (100 : Int32)) % (10 : Int32)) (1 : Int32))))]))
  refine own_back ?_ (fun t k => XS.bipush X5.here hx rfl (hb hby at_56) k)
  show own_Go p e below PO (T5.setTop (mkF m 58 #[.val (.int pA), .val (.int pB), .val (.int pC), .val (.long jR), .second, .val (.int v5_1), .val (.int v6_2), .val (.int v7_3), .unset, .unset, .unset, .unset, .unset, .unset, .unset, .unset] [(.int (10 : Int32)), (.int (v5_1 / (10 : Int32))), (.long ((own_db (v5_1 / (1000 : Int32)) (0 : Int32)) ||| (own_db ((v5_1 / (100 : Int32)) % (10 : Int32)) (1 : Int32))))]))
  refine own_back ?_ (fun t k => iremM X5 hx rfl (hb hby at_58) rfl (by decide) k)
  show own_Go p e below PO (T5.setTop (mkF m 59 #[.val (.int pA), .val (.int pB), .val (.int pC), .val (.long jR), .second, .val (.int v5_1), .val (.int v6_2), .val (.int v7_3), .unset, .unset, .unset, .unset, .unset, .unset, .unset, .unset] [(.int ((v5_1 / (10 : Int32)) % (10 : Int32))), (.long ((own_db (v5_1 / (1000 : Int32)) (0 : Int32)) ||| (own_db ((v5_1 / (100 : Int32)) % (10 : Int32)) (1 : Int32))))]))
  refine own_back ?_ (fun t k => XS.iconst X5.here hx rfl (hb hby at_59) k)
  show own_Go p e below PO (T5.setTop (mkF m 60 #[.val (.int pA), .val (.int pB), .val (.int pC), .val (.long jR), .second, .val (.int v5_1), .val (.int v6_2), .val (.int v7_3), .unset, .unset, .unset, .unset, .unset, .unset, .unset, .unset] [(.int (2 : Int32)), (.int ((v5_1 / (10 : Int32)) % (10 : Int32))), (.long ((own_db (v5_1 / (1000 : Int32)) (0 : Int32)) ||| (own_db ((v5_1 / (100 : Int32)) % (10 : Int32)) (1 : Int32))))]))
  obtain ⟨_, _, ⟨T6, L6, k6, n6⟩, -, X6, ⟨Lc6, hQ6, l6, y6, z6⟩, st6⟩ := Jvm.LawKit.callS X5 hx (y := (⟨"com/example/fillwire/fillwire/wire/WordsDecimalPinLaw", "digitByte", "(II)J"⟩ : MethodName)) hown (mvT hZ (hw _ (List.mem_of_getElem? (i := 1) rfl))) (mvT hZ (hw _ (List.mem_of_getElem? (i := 2) rfl))) (mvT hZ (hw _ (List.mem_of_getElem? (i := 3) rfl))) (mvT hZ (hw _ (List.mem_of_getElem? (i := 4) rfl))) (by decide) (backOf (W := 2) (rm1 l Z a0 hw [] ((v5_1 / (10 : Int32)) % (10 : Int32)) (2 : Int32)  h0 n0 Z0 ) hZ (hw _ (List.mem_of_getElem? (i := 4) rfl)) (hw _ (List.mem_of_getElem? (i := 3) rfl)) (by decide) (by decide)) (g := (mkF m 60 #[.val (.int pA), .val (.int pB), .val (.int pC), .val (.long jR), .second, .val (.int v5_1), .val (.int v6_2), .val (.int v7_3), .unset, .unset, .unset, .unset, .unset, .unset, .unset, .unset] [(.int (2 : Int32)), (.int ((v5_1 / (10 : Int32)) % (10 : Int32))), (.long ((own_db (v5_1 / (1000 : Int32)) (0 : Int32)) ||| (own_db ((v5_1 / (100 : Int32)) % (10 : Int32)) (1 : Int32))))])) rfl (by rw [hml]; rfl) (argsL := [(.int ((v5_1 / (10 : Int32)) % (10 : Int32))), (.int (2 : Int32))]) (rest := [(.long ((own_db (v5_1 / (1000 : Int32)) (0 : Int32)) ||| (own_db ((v5_1 / (100 : Int32)) % (10 : Int32)) (1 : Int32))))]) (lenOf pd_0 rfl) rfl (by show 2 * 0 + _ ≤ _; exact Nat.le_of_eq rfl) (hb hby at_60) (fun _ _ => ⟨rfl, e5, (by decide : 0 + 0 ≤ _), (by decide : 0 + 0 ≤ _)⟩)
  dsimp only [Pt.U, Pt.locs, Pt.cells, Pt.slots] at X6 l6 y6 z6 st6 hQ6
  subst l6 y6 z6
  obtain ⟨rfl, N6q, e6⟩ := hQ6
  have N6 := Fr.app N5 N6q
  refine own_back ?_ st6
  show own_Go p e below PO (T6.setTop (mkF m 63 #[.val (.int pA), .val (.int pB), .val (.int pC), .val (.long jR), .second, .val (.int v5_1), .val (.int v6_2), .val (.int v7_3), .unset, .unset, .unset, .unset, .unset, .unset, .unset, .unset] [(.long (own_db ((v5_1 / (10 : Int32)) % (10 : Int32)) (2 : Int32))), (.long ((own_db (v5_1 / (1000 : Int32)) (0 : Int32)) ||| (own_db ((v5_1 / (100 : Int32)) % (10 : Int32)) (1 : Int32))))]))
  refine own_back ?_ (fun t k => XS.lor X6.here hx rfl (hb hby at_63) rfl k)
  show own_Go p e below PO (T6.setTop (mkF m 64 #[.val (.int pA), .val (.int pB), .val (.int pC), .val (.long jR), .second, .val (.int v5_1), .val (.int v6_2), .val (.int v7_3), .unset, .unset, .unset, .unset, .unset, .unset, .unset, .unset] [(.long (((own_db (v5_1 / (1000 : Int32)) (0 : Int32)) ||| (own_db ((v5_1 / (100 : Int32)) % (10 : Int32)) (1 : Int32))) ||| (own_db ((v5_1 / (10 : Int32)) % (10 : Int32)) (2 : Int32))))]))
  refine own_back ?_ (fun t k => XS.iload X6.here hx rfl (hb hby at_64) rfl k)
  show own_Go p e below PO (T6.setTop (mkF m 66 #[.val (.int pA), .val (.int pB), .val (.int pC), .val (.long jR), .second, .val (.int v5_1), .val (.int v6_2), .val (.int v7_3), .unset, .unset, .unset, .unset, .unset, .unset, .unset, .unset] [(.int v5_1), (.long (((own_db (v5_1 / (1000 : Int32)) (0 : Int32)) ||| (own_db ((v5_1 / (100 : Int32)) % (10 : Int32)) (1 : Int32))) ||| (own_db ((v5_1 / (10 : Int32)) % (10 : Int32)) (2 : Int32))))]))
  refine own_back ?_ (fun t k => XS.bipush X6.here hx rfl (hb hby at_66) k)
  show own_Go p e below PO (T6.setTop (mkF m 68 #[.val (.int pA), .val (.int pB), .val (.int pC), .val (.long jR), .second, .val (.int v5_1), .val (.int v6_2), .val (.int v7_3), .unset, .unset, .unset, .unset, .unset, .unset, .unset, .unset] [(.int (10 : Int32)), (.int v5_1), (.long (((own_db (v5_1 / (1000 : Int32)) (0 : Int32)) ||| (own_db ((v5_1 / (100 : Int32)) % (10 : Int32)) (1 : Int32))) ||| (own_db ((v5_1 / (10 : Int32)) % (10 : Int32)) (2 : Int32))))]))
  refine own_back ?_ (fun t k => iremM X6 hx rfl (hb hby at_68) rfl (by decide) k)
  show own_Go p e below PO (T6.setTop (mkF m 69 #[.val (.int pA), .val (.int pB), .val (.int pC), .val (.long jR), .second, .val (.int v5_1), .val (.int v6_2), .val (.int v7_3), .unset, .unset, .unset, .unset, .unset, .unset, .unset, .unset] [(.int (v5_1 % (10 : Int32))), (.long (((own_db (v5_1 / (1000 : Int32)) (0 : Int32)) ||| (own_db ((v5_1 / (100 : Int32)) % (10 : Int32)) (1 : Int32))) ||| (own_db ((v5_1 / (10 : Int32)) % (10 : Int32)) (2 : Int32))))]))
  refine own_back ?_ (fun t k => XS.iconst X6.here hx rfl (hb hby at_69) k)
  show own_Go p e below PO (T6.setTop (mkF m 70 #[.val (.int pA), .val (.int pB), .val (.int pC), .val (.long jR), .second, .val (.int v5_1), .val (.int v6_2), .val (.int v7_3), .unset, .unset, .unset, .unset, .unset, .unset, .unset, .unset] [(.int (3 : Int32)), (.int (v5_1 % (10 : Int32))), (.long (((own_db (v5_1 / (1000 : Int32)) (0 : Int32)) ||| (own_db ((v5_1 / (100 : Int32)) % (10 : Int32)) (1 : Int32))) ||| (own_db ((v5_1 / (10 : Int32)) % (10 : Int32)) (2 : Int32))))]))
  obtain ⟨_, _, ⟨T7, L7, k7, n7⟩, -, X7, ⟨Lc7, hQ7, l7, y7, z7⟩, st7⟩ := Jvm.LawKit.callS X6 hx (y := (⟨"com/example/fillwire/fillwire/wire/WordsDecimalPinLaw", "digitByte", "(II)J"⟩ : MethodName)) hown (mvT hZ (hw _ (List.mem_of_getElem? (i := 1) rfl))) (mvT hZ (hw _ (List.mem_of_getElem? (i := 2) rfl))) (mvT hZ (hw _ (List.mem_of_getElem? (i := 3) rfl))) (mvT hZ (hw _ (List.mem_of_getElem? (i := 4) rfl))) (by decide) (backOf (W := 2) (rm1 l Z a0 hw [] (v5_1 % (10 : Int32)) (3 : Int32)  h0 n0 Z0 ) hZ (hw _ (List.mem_of_getElem? (i := 4) rfl)) (hw _ (List.mem_of_getElem? (i := 3) rfl)) (by decide) (by decide)) (g := (mkF m 70 #[.val (.int pA), .val (.int pB), .val (.int pC), .val (.long jR), .second, .val (.int v5_1), .val (.int v6_2), .val (.int v7_3), .unset, .unset, .unset, .unset, .unset, .unset, .unset, .unset] [(.int (3 : Int32)), (.int (v5_1 % (10 : Int32))), (.long (((own_db (v5_1 / (1000 : Int32)) (0 : Int32)) ||| (own_db ((v5_1 / (100 : Int32)) % (10 : Int32)) (1 : Int32))) ||| (own_db ((v5_1 / (10 : Int32)) % (10 : Int32)) (2 : Int32))))])) rfl (by rw [hml]; rfl) (argsL := [(.int (v5_1 % (10 : Int32))), (.int (3 : Int32))]) (rest := [(.long (((own_db (v5_1 / (1000 : Int32)) (0 : Int32)) ||| (own_db ((v5_1 / (100 : Int32)) % (10 : Int32)) (1 : Int32))) ||| (own_db ((v5_1 / (10 : Int32)) % (10 : Int32)) (2 : Int32))))]) (lenOf pd_0 rfl) rfl (by show 2 * 0 + _ ≤ _; exact Nat.le_of_eq rfl) (hb hby at_70) (fun _ _ => ⟨rfl, e6, (by decide : 0 + 0 ≤ _), (by decide : 0 + 0 ≤ _)⟩)
  dsimp only [Pt.U, Pt.locs, Pt.cells, Pt.slots] at X7 l7 y7 z7 st7 hQ7
  subst l7 y7 z7
  obtain ⟨rfl, N7q, e7⟩ := hQ7
  have N7 := Fr.app N6 N7q
  refine own_back ?_ st7
  show own_Go p e below PO (T7.setTop (mkF m 73 #[.val (.int pA), .val (.int pB), .val (.int pC), .val (.long jR), .second, .val (.int v5_1), .val (.int v6_2), .val (.int v7_3), .unset, .unset, .unset, .unset, .unset, .unset, .unset, .unset] [(.long (own_db (v5_1 % (10 : Int32)) (3 : Int32))), (.long (((own_db (v5_1 / (1000 : Int32)) (0 : Int32)) ||| (own_db ((v5_1 / (100 : Int32)) % (10 : Int32)) (1 : Int32))) ||| (own_db ((v5_1 / (10 : Int32)) % (10 : Int32)) (2 : Int32))))]))
  refine own_back ?_ (fun t k => XS.lor X7.here hx rfl (hb hby at_73) rfl k)
  show own_Go p e below PO (T7.setTop (mkF m 74 #[.val (.int pA), .val (.int pB), .val (.int pC), .val (.long jR), .second, .val (.int v5_1), .val (.int v6_2), .val (.int v7_3), .unset, .unset, .unset, .unset, .unset, .unset, .unset, .unset] [(.long ((((own_db (v5_1 / (1000 : Int32)) (0 : Int32)) ||| (own_db ((v5_1 / (100 : Int32)) % (10 : Int32)) (1 : Int32))) ||| (own_db ((v5_1 / (10 : Int32)) % (10 : Int32)) (2 : Int32))) ||| (own_db (v5_1 % (10 : Int32)) (3 : Int32))))]))
  refine own_back ?_ (fun t k => XS.iload X7.here hx rfl (hb hby at_74) rfl k)
  show own_Go p e below PO (T7.setTop (mkF m 76 #[.val (.int pA), .val (.int pB), .val (.int pC), .val (.long jR), .second, .val (.int v5_1), .val (.int v6_2), .val (.int v7_3), .unset, .unset, .unset, .unset, .unset, .unset, .unset, .unset] [(.int v6_2), (.long ((((own_db (v5_1 / (1000 : Int32)) (0 : Int32)) ||| (own_db ((v5_1 / (100 : Int32)) % (10 : Int32)) (1 : Int32))) ||| (own_db ((v5_1 / (10 : Int32)) % (10 : Int32)) (2 : Int32))) ||| (own_db (v5_1 % (10 : Int32)) (3 : Int32))))]))
  refine own_back ?_ (fun t k => XS.sipush X7.here hx rfl (hb hby at_76) k)
  show own_Go p e below PO (T7.setTop (mkF m 79 #[.val (.int pA), .val (.int pB), .val (.int pC), .val (.long jR), .second, .val (.int v5_1), .val (.int v6_2), .val (.int v7_3), .unset, .unset, .unset, .unset, .unset, .unset, .unset, .unset] [(.int (1000 : Int32)), (.int v6_2), (.long ((((own_db (v5_1 / (1000 : Int32)) (0 : Int32)) ||| (own_db ((v5_1 / (100 : Int32)) % (10 : Int32)) (1 : Int32))) ||| (own_db ((v5_1 / (10 : Int32)) % (10 : Int32)) (2 : Int32))) ||| (own_db (v5_1 % (10 : Int32)) (3 : Int32))))]))
  refine own_back ?_ (fun t k => XS.idiv X7.here hx rfl (hb hby at_79) rfl (by decide) k)
  show own_Go p e below PO (T7.setTop (mkF m 80 #[.val (.int pA), .val (.int pB), .val (.int pC), .val (.long jR), .second, .val (.int v5_1), .val (.int v6_2), .val (.int v7_3), .unset, .unset, .unset, .unset, .unset, .unset, .unset, .unset] [(.int (v6_2 / (1000 : Int32))), (.long ((((own_db (v5_1 / (1000 : Int32)) (0 : Int32)) ||| (own_db ((v5_1 / (100 : Int32)) % (10 : Int32)) (1 : Int32))) ||| (own_db ((v5_1 / (10 : Int32)) % (10 : Int32)) (2 : Int32))) ||| (own_db (v5_1 % (10 : Int32)) (3 : Int32))))]))
  refine own_back ?_ (fun t k => XS.iconst X7.here hx rfl (hb hby at_80) k)
  show own_Go p e below PO (T7.setTop (mkF m 81 #[.val (.int pA), .val (.int pB), .val (.int pC), .val (.long jR), .second, .val (.int v5_1), .val (.int v6_2), .val (.int v7_3), .unset, .unset, .unset, .unset, .unset, .unset, .unset, .unset] [(.int (4 : Int32)), (.int (v6_2 / (1000 : Int32))), (.long ((((own_db (v5_1 / (1000 : Int32)) (0 : Int32)) ||| (own_db ((v5_1 / (100 : Int32)) % (10 : Int32)) (1 : Int32))) ||| (own_db ((v5_1 / (10 : Int32)) % (10 : Int32)) (2 : Int32))) ||| (own_db (v5_1 % (10 : Int32)) (3 : Int32))))]))
  obtain ⟨_, _, ⟨T8, L8, k8, n8⟩, -, X8, ⟨Lc8, hQ8, l8, y8, z8⟩, st8⟩ := Jvm.LawKit.callS X7 hx (y := (⟨"com/example/fillwire/fillwire/wire/WordsDecimalPinLaw", "digitByte", "(II)J"⟩ : MethodName)) hown (mvT hZ (hw _ (List.mem_of_getElem? (i := 1) rfl))) (mvT hZ (hw _ (List.mem_of_getElem? (i := 2) rfl))) (mvT hZ (hw _ (List.mem_of_getElem? (i := 3) rfl))) (mvT hZ (hw _ (List.mem_of_getElem? (i := 4) rfl))) (by decide) (backOf (W := 2) (rm1 l Z a0 hw [] (v6_2 / (1000 : Int32)) (4 : Int32)  h0 n0 Z0 ) hZ (hw _ (List.mem_of_getElem? (i := 4) rfl)) (hw _ (List.mem_of_getElem? (i := 3) rfl)) (by decide) (by decide)) (g := (mkF m 81 #[.val (.int pA), .val (.int pB), .val (.int pC), .val (.long jR), .second, .val (.int v5_1), .val (.int v6_2), .val (.int v7_3), .unset, .unset, .unset, .unset, .unset, .unset, .unset, .unset] [(.int (4 : Int32)), (.int (v6_2 / (1000 : Int32))), (.long ((((own_db (v5_1 / (1000 : Int32)) (0 : Int32)) ||| (own_db ((v5_1 / (100 : Int32)) % (10 : Int32)) (1 : Int32))) ||| (own_db ((v5_1 / (10 : Int32)) % (10 : Int32)) (2 : Int32))) ||| (own_db (v5_1 % (10 : Int32)) (3 : Int32))))])) rfl (by rw [hml]; rfl) (argsL := [(.int (v6_2 / (1000 : Int32))), (.int (4 : Int32))]) (rest := [(.long ((((own_db (v5_1 / (1000 : Int32)) (0 : Int32)) ||| (own_db ((v5_1 / (100 : Int32)) % (10 : Int32)) (1 : Int32))) ||| (own_db ((v5_1 / (10 : Int32)) % (10 : Int32)) (2 : Int32))) ||| (own_db (v5_1 % (10 : Int32)) (3 : Int32))))]) (lenOf pd_0 rfl) rfl (by show 2 * 0 + _ ≤ _; exact Nat.le_of_eq rfl) (hb hby at_81) (fun _ _ => ⟨rfl, e7, (by decide : 0 + 0 ≤ _), (by decide : 0 + 0 ≤ _)⟩)
  dsimp only [Pt.U, Pt.locs, Pt.cells, Pt.slots] at X8 l8 y8 z8 st8 hQ8
  subst l8 y8 z8
  obtain ⟨rfl, N8q, e8⟩ := hQ8
  have N8 := Fr.app N7 N8q
  refine own_back ?_ st8
  show own_Go p e below PO (T8.setTop (mkF m 84 #[.val (.int pA), .val (.int pB), .val (.int pC), .val (.long jR), .second, .val (.int v5_1), .val (.int v6_2), .val (.int v7_3), .unset, .unset, .unset, .unset, .unset, .unset, .unset, .unset] [(.long (own_db (v6_2 / (1000 : Int32)) (4 : Int32))), (.long ((((own_db (v5_1 / (1000 : Int32)) (0 : Int32)) ||| (own_db ((v5_1 / (100 : Int32)) % (10 : Int32)) (1 : Int32))) ||| (own_db ((v5_1 / (10 : Int32)) % (10 : Int32)) (2 : Int32))) ||| (own_db (v5_1 % (10 : Int32)) (3 : Int32))))]))
  refine own_back ?_ (fun t k => XS.lor X8.here hx rfl (hb hby at_84) rfl k)
  show own_Go p e below PO (T8.setTop (mkF m 85 #[.val (.int pA), .val (.int pB), .val (.int pC), .val (.long jR), .second, .val (.int v5_1), .val (.int v6_2), .val (.int v7_3), .unset, .unset, .unset, .unset, .unset, .unset, .unset, .unset] [(.long (((((own_db (v5_1 / (1000 : Int32)) (0 : Int32)) ||| (own_db ((v5_1 / (100 : Int32)) % (10 : Int32)) (1 : Int32))) ||| (own_db ((v5_1 / (10 : Int32)) % (10 : Int32)) (2 : Int32))) ||| (own_db (v5_1 % (10 : Int32)) (3 : Int32))) ||| (own_db (v6_2 / (1000 : Int32)) (4 : Int32))))]))
  refine own_back ?_ (fun t k => XS.iload X8.here hx rfl (hb hby at_85) rfl k)
  show own_Go p e below PO (T8.setTop (mkF m 87 #[.val (.int pA), .val (.int pB), .val (.int pC), .val (.long jR), .second, .val (.int v5_1), .val (.int v6_2), .val (.int v7_3), .unset, .unset, .unset, .unset, .unset, .unset, .unset, .unset] [(.int v6_2), (.long (((((own_db (v5_1 / (1000 : Int32)) (0 : Int32)) ||| (own_db ((v5_1 / (100 : Int32)) % (10 : Int32)) (1 : Int32))) ||| (own_db ((v5_1 / (10 : Int32)) % (10 : Int32)) (2 : Int32))) ||| (own_db (v5_1 % (10 : Int32)) (3 : Int32))) ||| (own_db (v6_2 / (1000 : Int32)) (4 : Int32))))]))
  refine own_back ?_ (fun t k => XS.bipush X8.here hx rfl (hb hby at_87) k)
  show own_Go p e below PO (T8.setTop (mkF m 89 #[.val (.int pA), .val (.int pB), .val (.int pC), .val (.long jR), .second, .val (.int v5_1), .val (.int v6_2), .val (.int v7_3), .unset, .unset, .unset, .unset, .unset, .unset, .unset, .unset] [(.int (100 : Int32)), (.int v6_2), (.long (((((own_db (v5_1 / (1000 : Int32)) (0 : Int32)) ||| (own_db ((v5_1 / (100 : Int32)) % (10 : Int32)) (1 : Int32))) ||| (own_db ((v5_1 / (10 : Int32)) % (10 : Int32)) (2 : Int32))) ||| (own_db (v5_1 % (10 : Int32)) (3 : Int32))) ||| (own_db (v6_2 / (1000 : Int32)) (4 : Int32))))]))
  refine own_back ?_ (fun t k => XS.idiv X8.here hx rfl (hb hby at_89) rfl (by decide) k)
  show own_Go p e below PO (T8.setTop (mkF m 90 #[.val (.int pA), .val (.int pB), .val (.int pC), .val (.long jR), .second, .val (.int v5_1), .val (.int v6_2), .val (.int v7_3), .unset, .unset, .unset, .unset, .unset, .unset, .unset, .unset] [(.int (v6_2 / (100 : Int32))), (.long (((((own_db (v5_1 / (1000 : Int32)) (0 : Int32)) ||| (own_db ((v5_1 / (100 : Int32)) % (10 : Int32)) (1 : Int32))) ||| (own_db ((v5_1 / (10 : Int32)) % (10 : Int32)) (2 : Int32))) ||| (own_db (v5_1 % (10 : Int32)) (3 : Int32))) ||| (own_db (v6_2 / (1000 : Int32)) (4 : Int32))))]))
  refine own_back ?_ (fun t k => XS.bipush X8.here hx rfl (hb hby at_90) k)
  show own_Go p e below PO (T8.setTop (mkF m 92 #[.val (.int pA), .val (.int pB), .val (.int pC), .val (.long jR), .second, .val (.int v5_1), .val (.int v6_2), .val (.int v7_3), .unset, .unset, .unset, .unset, .unset, .unset, .unset, .unset] [(.int (10 : Int32)), (.int (v6_2 / (100 : Int32))), (.long (((((own_db (v5_1 / (1000 : Int32)) (0 : Int32)) ||| (own_db ((v5_1 / (100 : Int32)) % (10 : Int32)) (1 : Int32))) ||| (own_db ((v5_1 / (10 : Int32)) % (10 : Int32)) (2 : Int32))) ||| (own_db (v5_1 % (10 : Int32)) (3 : Int32))) ||| (own_db (v6_2 / (1000 : Int32)) (4 : Int32))))]))
  refine own_back ?_ (fun t k => iremM X8 hx rfl (hb hby at_92) rfl (by decide) k)
  show own_Go p e below PO (T8.setTop (mkF m 93 #[.val (.int pA), .val (.int pB), .val (.int pC), .val (.long jR), .second, .val (.int v5_1), .val (.int v6_2), .val (.int v7_3), .unset, .unset, .unset, .unset, .unset, .unset, .unset, .unset] [(.int ((v6_2 / (100 : Int32)) % (10 : Int32))), (.long (((((own_db (v5_1 / (1000 : Int32)) (0 : Int32)) ||| (own_db ((v5_1 / (100 : Int32)) % (10 : Int32)) (1 : Int32))) ||| (own_db ((v5_1 / (10 : Int32)) % (10 : Int32)) (2 : Int32))) ||| (own_db (v5_1 % (10 : Int32)) (3 : Int32))) ||| (own_db (v6_2 / (1000 : Int32)) (4 : Int32))))]))
  refine own_back ?_ (fun t k => XS.iconst X8.here hx rfl (hb hby at_93) k)
  show own_Go p e below PO (T8.setTop (mkF m 94 #[.val (.int pA), .val (.int pB), .val (.int pC), .val (.long jR), .second, .val (.int v5_1), .val (.int v6_2), .val (.int v7_3), .unset, .unset, .unset, .unset, .unset, .unset, .unset, .unset] [(.int (5 : Int32)), (.int ((v6_2 / (100 : Int32)) % (10 : Int32))), (.long (((((own_db (v5_1 / (1000 : Int32)) (0 : Int32)) ||| (own_db ((v5_1 / (100 : Int32)) % (10 : Int32)) (1 : Int32))) ||| (own_db ((v5_1 / (10 : Int32)) % (10 : Int32)) (2 : Int32))) ||| (own_db (v5_1 % (10 : Int32)) (3 : Int32))) ||| (own_db (v6_2 / (1000 : Int32)) (4 : Int32))))]))
  obtain ⟨_, _, ⟨T9, L9, k9, n9⟩, -, X9, ⟨Lc9, hQ9, l9, y9, z9⟩, st9⟩ := Jvm.LawKit.callS X8 hx (y := (⟨"com/example/fillwire/fillwire/wire/WordsDecimalPinLaw", "digitByte", "(II)J"⟩ : MethodName)) hown (mvT hZ (hw _ (List.mem_of_getElem? (i := 1) rfl))) (mvT hZ (hw _ (List.mem_of_getElem? (i := 2) rfl))) (mvT hZ (hw _ (List.mem_of_getElem? (i := 3) rfl))) (mvT hZ (hw _ (List.mem_of_getElem? (i := 4) rfl))) (by decide) (backOf (W := 2) (rm1 l Z a0 hw [] ((v6_2 / (100 : Int32)) % (10 : Int32)) (5 : Int32)  h0 n0 Z0 ) hZ (hw _ (List.mem_of_getElem? (i := 4) rfl)) (hw _ (List.mem_of_getElem? (i := 3) rfl)) (by decide) (by decide)) (g := (mkF m 94 #[.val (.int pA), .val (.int pB), .val (.int pC), .val (.long jR), .second, .val (.int v5_1), .val (.int v6_2), .val (.int v7_3), .unset, .unset, .unset, .unset, .unset, .unset, .unset, .unset] [(.int (5 : Int32)), (.int ((v6_2 / (100 : Int32)) % (10 : Int32))), (.long (((((own_db (v5_1 / (1000 : Int32)) (0 : Int32)) ||| (own_db ((v5_1 / (100 : Int32)) % (10 : Int32)) (1 : Int32))) ||| (own_db ((v5_1 / (10 : Int32)) % (10 : Int32)) (2 : Int32))) ||| (own_db (v5_1 % (10 : Int32)) (3 : Int32))) ||| (own_db (v6_2 / (1000 : Int32)) (4 : Int32))))])) rfl (by rw [hml]; rfl) (argsL := [(.int ((v6_2 / (100 : Int32)) % (10 : Int32))), (.int (5 : Int32))]) (rest := [(.long (((((own_db (v5_1 / (1000 : Int32)) (0 : Int32)) ||| (own_db ((v5_1 / (100 : Int32)) % (10 : Int32)) (1 : Int32))) ||| (own_db ((v5_1 / (10 : Int32)) % (10 : Int32)) (2 : Int32))) ||| (own_db (v5_1 % (10 : Int32)) (3 : Int32))) ||| (own_db (v6_2 / (1000 : Int32)) (4 : Int32))))]) (lenOf pd_0 rfl) rfl (by show 2 * 0 + _ ≤ _; exact Nat.le_of_eq rfl) (hb hby at_94) (fun _ _ => ⟨rfl, e8, (by decide : 0 + 0 ≤ _), (by decide : 0 + 0 ≤ _)⟩)
  dsimp only [Pt.U, Pt.locs, Pt.cells, Pt.slots] at X9 l9 y9 z9 st9 hQ9
  subst l9 y9 z9
  obtain ⟨rfl, N9q, e9⟩ := hQ9
  have N9 := Fr.app N8 N9q
  refine own_back ?_ st9
  show own_Go p e below PO (T9.setTop (mkF m 97 #[.val (.int pA), .val (.int pB), .val (.int pC), .val (.long jR), .second, .val (.int v5_1), .val (.int v6_2), .val (.int v7_3), .unset, .unset, .unset, .unset, .unset, .unset, .unset, .unset] [(.long (own_db ((v6_2 / (100 : Int32)) % (10 : Int32)) (5 : Int32))), (.long (((((own_db (v5_1 / (1000 : Int32)) (0 : Int32)) ||| (own_db ((v5_1 / (100 : Int32)) % (10 : Int32)) (1 : Int32))) ||| (own_db ((v5_1 / (10 : Int32)) % (10 : Int32)) (2 : Int32))) ||| (own_db (v5_1 % (10 : Int32)) (3 : Int32))) ||| (own_db (v6_2 / (1000 : Int32)) (4 : Int32))))]))
  refine own_back ?_ (fun t k => XS.lor X9.here hx rfl (hb hby at_97) rfl k)
  show own_Go p e below PO (T9.setTop (mkF m 98 #[.val (.int pA), .val (.int pB), .val (.int pC), .val (.long jR), .second, .val (.int v5_1), .val (.int v6_2), .val (.int v7_3), .unset, .unset, .unset, .unset, .unset, .unset, .unset, .unset] [(.long ((((((own_db (v5_1 / (1000 : Int32)) (0 : Int32)) ||| (own_db ((v5_1 / (100 : Int32)) % (10 : Int32)) (1 : Int32))) ||| (own_db ((v5_1 / (10 : Int32)) % (10 : Int32)) (2 : Int32))) ||| (own_db (v5_1 % (10 : Int32)) (3 : Int32))) ||| (own_db (v6_2 / (1000 : Int32)) (4 : Int32))) ||| (own_db ((v6_2 / (100 : Int32)) % (10 : Int32)) (5 : Int32))))]))
  refine own_back ?_ (fun t k => XS.iload X9.here hx rfl (hb hby at_98) rfl k)
  show own_Go p e below PO (T9.setTop (mkF m 100 #[.val (.int pA), .val (.int pB), .val (.int pC), .val (.long jR), .second, .val (.int v5_1), .val (.int v6_2), .val (.int v7_3), .unset, .unset, .unset, .unset, .unset, .unset, .unset, .unset] [(.int v6_2), (.long ((((((own_db (v5_1 / (1000 : Int32)) (0 : Int32)) ||| (own_db ((v5_1 / (100 : Int32)) % (10 : Int32)) (1 : Int32))) ||| (own_db ((v5_1 / (10 : Int32)) % (10 : Int32)) (2 : Int32))) ||| (own_db (v5_1 % (10 : Int32)) (3 : Int32))) ||| (own_db (v6_2 / (1000 : Int32)) (4 : Int32))) ||| (own_db ((v6_2 / (100 : Int32)) % (10 : Int32)) (5 : Int32))))]))
  refine own_back ?_ (fun t k => XS.bipush X9.here hx rfl (hb hby at_100) k)
  show own_Go p e below PO (T9.setTop (mkF m 102 #[.val (.int pA), .val (.int pB), .val (.int pC), .val (.long jR), .second, .val (.int v5_1), .val (.int v6_2), .val (.int v7_3), .unset, .unset, .unset, .unset, .unset, .unset, .unset, .unset] [(.int (10 : Int32)), (.int v6_2), (.long ((((((own_db (v5_1 / (1000 : Int32)) (0 : Int32)) ||| (own_db ((v5_1 / (100 : Int32)) % (10 : Int32)) (1 : Int32))) ||| (own_db ((v5_1 / (10 : Int32)) % (10 : Int32)) (2 : Int32))) ||| (own_db (v5_1 % (10 : Int32)) (3 : Int32))) ||| (own_db (v6_2 / (1000 : Int32)) (4 : Int32))) ||| (own_db ((v6_2 / (100 : Int32)) % (10 : Int32)) (5 : Int32))))]))
  refine own_back ?_ (fun t k => XS.idiv X9.here hx rfl (hb hby at_102) rfl (by decide) k)
  show own_Go p e below PO (T9.setTop (mkF m 103 #[.val (.int pA), .val (.int pB), .val (.int pC), .val (.long jR), .second, .val (.int v5_1), .val (.int v6_2), .val (.int v7_3), .unset, .unset, .unset, .unset, .unset, .unset, .unset, .unset] [(.int (v6_2 / (10 : Int32))), (.long ((((((own_db (v5_1 / (1000 : Int32)) (0 : Int32)) ||| (own_db ((v5_1 / (100 : Int32)) % (10 : Int32)) (1 : Int32))) ||| (own_db ((v5_1 / (10 : Int32)) % (10 : Int32)) (2 : Int32))) ||| (own_db (v5_1 % (10 : Int32)) (3 : Int32))) ||| (own_db (v6_2 / (1000 : Int32)) (4 : Int32))) ||| (own_db ((v6_2 / (100 : Int32)) % (10 : Int32)) (5 : Int32))))]))
  refine own_back ?_ (fun t k => XS.bipush X9.here hx rfl (hb hby at_103) k)
  show own_Go p e below PO (T9.setTop (mkF m 105 #[.val (.int pA), .val (.int pB), .val (.int pC), .val (.long jR), .second, .val (.int v5_1), .val (.int v6_2), .val (.int v7_3), .unset, .unset, .unset, .unset, .unset, .unset, .unset, .unset] [(.int (10 : Int32)), (.int (v6_2 / (10 : Int32))), (.long ((((((own_db (v5_1 / (1000 : Int32)) (0 : Int32)) ||| (own_db ((v5_1 / (100 : Int32)) % (10 : Int32)) (1 : Int32))) ||| (own_db ((v5_1 / (10 : Int32)) % (10 : Int32)) (2 : Int32))) ||| (own_db (v5_1 % (10 : Int32)) (3 : Int32))) ||| (own_db (v6_2 / (1000 : Int32)) (4 : Int32))) ||| (own_db ((v6_2 / (100 : Int32)) % (10 : Int32)) (5 : Int32))))]))
  refine own_back ?_ (fun t k => iremM X9 hx rfl (hb hby at_105) rfl (by decide) k)
  show own_Go p e below PO (T9.setTop (mkF m 106 #[.val (.int pA), .val (.int pB), .val (.int pC), .val (.long jR), .second, .val (.int v5_1), .val (.int v6_2), .val (.int v7_3), .unset, .unset, .unset, .unset, .unset, .unset, .unset, .unset] [(.int ((v6_2 / (10 : Int32)) % (10 : Int32))), (.long ((((((own_db (v5_1 / (1000 : Int32)) (0 : Int32)) ||| (own_db ((v5_1 / (100 : Int32)) % (10 : Int32)) (1 : Int32))) ||| (own_db ((v5_1 / (10 : Int32)) % (10 : Int32)) (2 : Int32))) ||| (own_db (v5_1 % (10 : Int32)) (3 : Int32))) ||| (own_db (v6_2 / (1000 : Int32)) (4 : Int32))) ||| (own_db ((v6_2 / (100 : Int32)) % (10 : Int32)) (5 : Int32))))]))
  refine own_back ?_ (fun t k => XS.bipush X9.here hx rfl (hb hby at_106) k)
  show own_Go p e below PO (T9.setTop (mkF m 108 #[.val (.int pA), .val (.int pB), .val (.int pC), .val (.long jR), .second, .val (.int v5_1), .val (.int v6_2), .val (.int v7_3), .unset, .unset, .unset, .unset, .unset, .unset, .unset, .unset] [(.int (6 : Int32)), (.int ((v6_2 / (10 : Int32)) % (10 : Int32))), (.long ((((((own_db (v5_1 / (1000 : Int32)) (0 : Int32)) ||| (own_db ((v5_1 / (100 : Int32)) % (10 : Int32)) (1 : Int32))) ||| (own_db ((v5_1 / (10 : Int32)) % (10 : Int32)) (2 : Int32))) ||| (own_db (v5_1 % (10 : Int32)) (3 : Int32))) ||| (own_db (v6_2 / (1000 : Int32)) (4 : Int32))) ||| (own_db ((v6_2 / (100 : Int32)) % (10 : Int32)) (5 : Int32))))]))
  obtain ⟨_, _, ⟨T10, L10, k10, n10⟩, -, X10, ⟨Lc10, hQ10, l10, y10, z10⟩, st10⟩ := Jvm.LawKit.callS X9 hx (y := (⟨"com/example/fillwire/fillwire/wire/WordsDecimalPinLaw", "digitByte", "(II)J"⟩ : MethodName)) hown (mvT hZ (hw _ (List.mem_of_getElem? (i := 1) rfl))) (mvT hZ (hw _ (List.mem_of_getElem? (i := 2) rfl))) (mvT hZ (hw _ (List.mem_of_getElem? (i := 3) rfl))) (mvT hZ (hw _ (List.mem_of_getElem? (i := 4) rfl))) (by decide) (backOf (W := 2) (rm1 l Z a0 hw [] ((v6_2 / (10 : Int32)) % (10 : Int32)) (6 : Int32)  h0 n0 Z0 ) hZ (hw _ (List.mem_of_getElem? (i := 4) rfl)) (hw _ (List.mem_of_getElem? (i := 3) rfl)) (by decide) (by decide)) (g := (mkF m 108 #[.val (.int pA), .val (.int pB), .val (.int pC), .val (.long jR), .second, .val (.int v5_1), .val (.int v6_2), .val (.int v7_3), .unset, .unset, .unset, .unset, .unset, .unset, .unset, .unset] [(.int (6 : Int32)), (.int ((v6_2 / (10 : Int32)) % (10 : Int32))), (.long ((((((own_db (v5_1 / (1000 : Int32)) (0 : Int32)) ||| (own_db ((v5_1 / (100 : Int32)) % (10 : Int32)) (1 : Int32))) ||| (own_db ((v5_1 / (10 : Int32)) % (10 : Int32)) (2 : Int32))) ||| (own_db (v5_1 % (10 : Int32)) (3 : Int32))) ||| (own_db (v6_2 / (1000 : Int32)) (4 : Int32))) ||| (own_db ((v6_2 / (100 : Int32)) % (10 : Int32)) (5 : Int32))))])) rfl (by rw [hml]; rfl) (argsL := [(.int ((v6_2 / (10 : Int32)) % (10 : Int32))), (.int (6 : Int32))]) (rest := [(.long ((((((own_db (v5_1 / (1000 : Int32)) (0 : Int32)) ||| (own_db ((v5_1 / (100 : Int32)) % (10 : Int32)) (1 : Int32))) ||| (own_db ((v5_1 / (10 : Int32)) % (10 : Int32)) (2 : Int32))) ||| (own_db (v5_1 % (10 : Int32)) (3 : Int32))) ||| (own_db (v6_2 / (1000 : Int32)) (4 : Int32))) ||| (own_db ((v6_2 / (100 : Int32)) % (10 : Int32)) (5 : Int32))))]) (lenOf pd_0 rfl) rfl (by show 2 * 0 + _ ≤ _; exact Nat.le_of_eq rfl) (hb hby at_108) (fun _ _ => ⟨rfl, e9, (by decide : 0 + 0 ≤ _), (by decide : 0 + 0 ≤ _)⟩)
  dsimp only [Pt.U, Pt.locs, Pt.cells, Pt.slots] at X10 l10 y10 z10 st10 hQ10
  subst l10 y10 z10
  obtain ⟨rfl, N10q, e10⟩ := hQ10
  have N10 := Fr.app N9 N10q
  refine own_back ?_ st10
  show own_Go p e below PO (T10.setTop (mkF m 111 #[.val (.int pA), .val (.int pB), .val (.int pC), .val (.long jR), .second, .val (.int v5_1), .val (.int v6_2), .val (.int v7_3), .unset, .unset, .unset, .unset, .unset, .unset, .unset, .unset] [(.long (own_db ((v6_2 / (10 : Int32)) % (10 : Int32)) (6 : Int32))), (.long ((((((own_db (v5_1 / (1000 : Int32)) (0 : Int32)) ||| (own_db ((v5_1 / (100 : Int32)) % (10 : Int32)) (1 : Int32))) ||| (own_db ((v5_1 / (10 : Int32)) % (10 : Int32)) (2 : Int32))) ||| (own_db (v5_1 % (10 : Int32)) (3 : Int32))) ||| (own_db (v6_2 / (1000 : Int32)) (4 : Int32))) ||| (own_db ((v6_2 / (100 : Int32)) % (10 : Int32)) (5 : Int32))))]))
  refine own_back ?_ (fun t k => XS.lor X10.here hx rfl (hb hby at_111) rfl k)
  show own_Go p e below PO (T10.setTop (mkF m 112 #[.val (.int pA), .val (.int pB), .val (.int pC), .val (.long jR), .second, .val (.int v5_1), .val (.int v6_2), .val (.int v7_3), .unset, .unset, .unset, .unset, .unset, .unset, .unset, .unset] [(.long (((((((own_db (v5_1 / (1000 : Int32)) (0 : Int32)) ||| (own_db ((v5_1 / (100 : Int32)) % (10 : Int32)) (1 : Int32))) ||| (own_db ((v5_1 / (10 : Int32)) % (10 : Int32)) (2 : Int32))) ||| (own_db (v5_1 % (10 : Int32)) (3 : Int32))) ||| (own_db (v6_2 / (1000 : Int32)) (4 : Int32))) ||| (own_db ((v6_2 / (100 : Int32)) % (10 : Int32)) (5 : Int32))) ||| (own_db ((v6_2 / (10 : Int32)) % (10 : Int32)) (6 : Int32))))]))
  refine own_back ?_ (fun t k => XS.iload X10.here hx rfl (hb hby at_112) rfl k)
  show own_Go p e below PO (T10.setTop (mkF m 114 #[.val (.int pA), .val (.int pB), .val (.int pC), .val (.long jR), .second, .val (.int v5_1), .val (.int v6_2), .val (.int v7_3), .unset, .unset, .unset, .unset, .unset, .unset, .unset, .unset] [(.int v6_2), (.long (((((((own_db (v5_1 / (1000 : Int32)) (0 : Int32)) ||| (own_db ((v5_1 / (100 : Int32)) % (10 : Int32)) (1 : Int32))) ||| (own_db ((v5_1 / (10 : Int32)) % (10 : Int32)) (2 : Int32))) ||| (own_db (v5_1 % (10 : Int32)) (3 : Int32))) ||| (own_db (v6_2 / (1000 : Int32)) (4 : Int32))) ||| (own_db ((v6_2 / (100 : Int32)) % (10 : Int32)) (5 : Int32))) ||| (own_db ((v6_2 / (10 : Int32)) % (10 : Int32)) (6 : Int32))))]))
  refine own_back ?_ (fun t k => XS.bipush X10.here hx rfl (hb hby at_114) k)
  show own_Go p e below PO (T10.setTop (mkF m 116 #[.val (.int pA), .val (.int pB), .val (.int pC), .val (.long jR), .second, .val (.int v5_1), .val (.int v6_2), .val (.int v7_3), .unset, .unset, .unset, .unset, .unset, .unset, .unset, .unset] [(.int (10 : Int32)), (.int v6_2), (.long (((((((own_db (v5_1 / (1000 : Int32)) (0 : Int32)) ||| (own_db ((v5_1 / (100 : Int32)) % (10 : Int32)) (1 : Int32))) ||| (own_db ((v5_1 / (10 : Int32)) % (10 : Int32)) (2 : Int32))) ||| (own_db (v5_1 % (10 : Int32)) (3 : Int32))) ||| (own_db (v6_2 / (1000 : Int32)) (4 : Int32))) ||| (own_db ((v6_2 / (100 : Int32)) % (10 : Int32)) (5 : Int32))) ||| (own_db ((v6_2 / (10 : Int32)) % (10 : Int32)) (6 : Int32))))]))
  refine own_back ?_ (fun t k => iremM X10 hx rfl (hb hby at_116) rfl (by decide) k)
  show own_Go p e below PO (T10.setTop (mkF m 117 #[.val (.int pA), .val (.int pB), .val (.int pC), .val (.long jR), .second, .val (.int v5_1), .val (.int v6_2), .val (.int v7_3), .unset, .unset, .unset, .unset, .unset, .unset, .unset, .unset] [(.int (v6_2 % (10 : Int32))), (.long (((((((own_db (v5_1 / (1000 : Int32)) (0 : Int32)) ||| (own_db ((v5_1 / (100 : Int32)) % (10 : Int32)) (1 : Int32))) ||| (own_db ((v5_1 / (10 : Int32)) % (10 : Int32)) (2 : Int32))) ||| (own_db (v5_1 % (10 : Int32)) (3 : Int32))) ||| (own_db (v6_2 / (1000 : Int32)) (4 : Int32))) ||| (own_db ((v6_2 / (100 : Int32)) % (10 : Int32)) (5 : Int32))) ||| (own_db ((v6_2 / (10 : Int32)) % (10 : Int32)) (6 : Int32))))]))
  refine own_back ?_ (fun t k => XS.bipush X10.here hx rfl (hb hby at_117) k)
  show own_Go p e below PO (T10.setTop (mkF m 119 #[.val (.int pA), .val (.int pB), .val (.int pC), .val (.long jR), .second, .val (.int v5_1), .val (.int v6_2), .val (.int v7_3), .unset, .unset, .unset, .unset, .unset, .unset, .unset, .unset] [(.int (7 : Int32)), (.int (v6_2 % (10 : Int32))), (.long (((((((own_db (v5_1 / (1000 : Int32)) (0 : Int32)) ||| (own_db ((v5_1 / (100 : Int32)) % (10 : Int32)) (1 : Int32))) ||| (own_db ((v5_1 / (10 : Int32)) % (10 : Int32)) (2 : Int32))) ||| (own_db (v5_1 % (10 : Int32)) (3 : Int32))) ||| (own_db (v6_2 / (1000 : Int32)) (4 : Int32))) ||| (own_db ((v6_2 / (100 : Int32)) % (10 : Int32)) (5 : Int32))) ||| (own_db ((v6_2 / (10 : Int32)) % (10 : Int32)) (6 : Int32))))]))
  obtain ⟨_, _, ⟨T11, L11, k11, n11⟩, -, X11, ⟨Lc11, hQ11, l11, y11, z11⟩, st11⟩ := Jvm.LawKit.callS X10 hx (y := (⟨"com/example/fillwire/fillwire/wire/WordsDecimalPinLaw", "digitByte", "(II)J"⟩ : MethodName)) hown (mvT hZ (hw _ (List.mem_of_getElem? (i := 1) rfl))) (mvT hZ (hw _ (List.mem_of_getElem? (i := 2) rfl))) (mvT hZ (hw _ (List.mem_of_getElem? (i := 3) rfl))) (mvT hZ (hw _ (List.mem_of_getElem? (i := 4) rfl))) (by decide) (backOf (W := 2) (rm1 l Z a0 hw [] (v6_2 % (10 : Int32)) (7 : Int32)  h0 n0 Z0 ) hZ (hw _ (List.mem_of_getElem? (i := 4) rfl)) (hw _ (List.mem_of_getElem? (i := 3) rfl)) (by decide) (by decide)) (g := (mkF m 119 #[.val (.int pA), .val (.int pB), .val (.int pC), .val (.long jR), .second, .val (.int v5_1), .val (.int v6_2), .val (.int v7_3), .unset, .unset, .unset, .unset, .unset, .unset, .unset, .unset] [(.int (7 : Int32)), (.int (v6_2 % (10 : Int32))), (.long (((((((own_db (v5_1 / (1000 : Int32)) (0 : Int32)) ||| (own_db ((v5_1 / (100 : Int32)) % (10 : Int32)) (1 : Int32))) ||| (own_db ((v5_1 / (10 : Int32)) % (10 : Int32)) (2 : Int32))) ||| (own_db (v5_1 % (10 : Int32)) (3 : Int32))) ||| (own_db (v6_2 / (1000 : Int32)) (4 : Int32))) ||| (own_db ((v6_2 / (100 : Int32)) % (10 : Int32)) (5 : Int32))) ||| (own_db ((v6_2 / (10 : Int32)) % (10 : Int32)) (6 : Int32))))])) rfl (by rw [hml]; rfl) (argsL := [(.int (v6_2 % (10 : Int32))), (.int (7 : Int32))]) (rest := [(.long (((((((own_db (v5_1 / (1000 : Int32)) (0 : Int32)) ||| (own_db ((v5_1 / (100 : Int32)) % (10 : Int32)) (1 : Int32))) ||| (own_db ((v5_1 / (10 : Int32)) % (10 : Int32)) (2 : Int32))) ||| (own_db (v5_1 % (10 : Int32)) (3 : Int32))) ||| (own_db (v6_2 / (1000 : Int32)) (4 : Int32))) ||| (own_db ((v6_2 / (100 : Int32)) % (10 : Int32)) (5 : Int32))) ||| (own_db ((v6_2 / (10 : Int32)) % (10 : Int32)) (6 : Int32))))]) (lenOf pd_0 rfl) rfl (by show 2 * 0 + _ ≤ _; exact Nat.le_of_eq rfl) (hb hby at_119) (fun _ _ => ⟨rfl, e10, (by decide : 0 + 0 ≤ _), (by decide : 0 + 0 ≤ _)⟩)
  dsimp only [Pt.U, Pt.locs, Pt.cells, Pt.slots] at X11 l11 y11 z11 st11 hQ11
  subst l11 y11 z11
  obtain ⟨rfl, N11q, e11⟩ := hQ11
  have N11 := Fr.app N10 N11q
  refine own_back ?_ st11
  show own_Go p e below PO (T11.setTop (mkF m 122 #[.val (.int pA), .val (.int pB), .val (.int pC), .val (.long jR), .second, .val (.int v5_1), .val (.int v6_2), .val (.int v7_3), .unset, .unset, .unset, .unset, .unset, .unset, .unset, .unset] [(.long (own_db (v6_2 % (10 : Int32)) (7 : Int32))), (.long (((((((own_db (v5_1 / (1000 : Int32)) (0 : Int32)) ||| (own_db ((v5_1 / (100 : Int32)) % (10 : Int32)) (1 : Int32))) ||| (own_db ((v5_1 / (10 : Int32)) % (10 : Int32)) (2 : Int32))) ||| (own_db (v5_1 % (10 : Int32)) (3 : Int32))) ||| (own_db (v6_2 / (1000 : Int32)) (4 : Int32))) ||| (own_db ((v6_2 / (100 : Int32)) % (10 : Int32)) (5 : Int32))) ||| (own_db ((v6_2 / (10 : Int32)) % (10 : Int32)) (6 : Int32))))]))
  refine own_back ?_ (fun t k => XS.lor X11.here hx rfl (hb hby at_122) rfl k)
  show own_Go p e below PO (T11.setTop (mkF m 123 #[.val (.int pA), .val (.int pB), .val (.int pC), .val (.long jR), .second, .val (.int v5_1), .val (.int v6_2), .val (.int v7_3), .unset, .unset, .unset, .unset, .unset, .unset, .unset, .unset] [(.long ((((((((own_db (v5_1 / (1000 : Int32)) (0 : Int32)) ||| (own_db ((v5_1 / (100 : Int32)) % (10 : Int32)) (1 : Int32))) ||| (own_db ((v5_1 / (10 : Int32)) % (10 : Int32)) (2 : Int32))) ||| (own_db (v5_1 % (10 : Int32)) (3 : Int32))) ||| (own_db (v6_2 / (1000 : Int32)) (4 : Int32))) ||| (own_db ((v6_2 / (100 : Int32)) % (10 : Int32)) (5 : Int32))) ||| (own_db ((v6_2 / (10 : Int32)) % (10 : Int32)) (6 : Int32))) ||| (own_db (v6_2 % (10 : Int32)) (7 : Int32))))]))
  refine own_back ?_ (fun t k => XS.lstore X11.here hx rfl (hb hby at_123) rfl (l' := #[.val (.int pA), .val (.int pB), .val (.int pC), .val (.long jR), .second, .val (.int v5_1), .val (.int v6_2), .val (.int v7_3), .val (.long ((((((((own_db (v5_1 / (1000 : Int32)) (0 : Int32)) ||| (own_db ((v5_1 / (100 : Int32)) % (10 : Int32)) (1 : Int32))) ||| (own_db ((v5_1 / (10 : Int32)) % (10 : Int32)) (2 : Int32))) ||| (own_db (v5_1 % (10 : Int32)) (3 : Int32))) ||| (own_db (v6_2 / (1000 : Int32)) (4 : Int32))) ||| (own_db ((v6_2 / (100 : Int32)) % (10 : Int32)) (5 : Int32))) ||| (own_db ((v6_2 / (10 : Int32)) % (10 : Int32)) (6 : Int32))) ||| (own_db (v6_2 % (10 : Int32)) (7 : Int32)))), .second, .unset, .unset, .unset, .unset, .unset, .unset]) rfl k)
  show own_Go p e below PO (T11.setTop (mkF m 125 #[.val (.int pA), .val (.int pB), .val (.int pC), .val (.long jR), .second, .val (.int v5_1), .val (.int v6_2), .val (.int v7_3), .val (.long ((((((((own_db (v5_1 / (1000 : Int32)) (0 : Int32)) ||| (own_db ((v5_1 / (100 : Int32)) % (10 : Int32)) (1 : Int32))) ||| (own_db ((v5_1 / (10 : Int32)) % (10 : Int32)) (2 : Int32))) ||| (own_db (v5_1 % (10 : Int32)) (3 : Int32))) ||| (own_db (v6_2 / (1000 : Int32)) (4 : Int32))) ||| (own_db ((v6_2 / (100 : Int32)) % (10 : Int32)) (5 : Int32))) ||| (own_db ((v6_2 / (10 : Int32)) % (10 : Int32)) (6 : Int32))) ||| (own_db (v6_2 % (10 : Int32)) (7 : Int32)))), .second, .unset, .unset, .unset, .unset, .unset, .unset] []))
  refine own_gen (A := Int64) ((((((((own_db (v5_1 / (1000 : Int32)) (0 : Int32)) ||| (own_db ((v5_1 / (100 : Int32)) % (10 : Int32)) (1 : Int32))) ||| (own_db ((v5_1 / (10 : Int32)) % (10 : Int32)) (2 : Int32))) ||| (own_db (v5_1 % (10 : Int32)) (3 : Int32))) ||| (own_db (v6_2 / (1000 : Int32)) (4 : Int32))) ||| (own_db ((v6_2 / (100 : Int32)) % (10 : Int32)) (5 : Int32))) ||| (own_db ((v6_2 / (10 : Int32)) % (10 : Int32)) (6 : Int32))) ||| (own_db (v6_2 % (10 : Int32)) (7 : Int32))) (fun v8_12 => own_Go p e below PO (T11.setTop (mkF m 125 #[.val (.int pA), .val (.int pB), .val (.int pC), .val (.long jR), .second, .val (.int v5_1), .val (.int v6_2), .val (.int v7_3), .val (.long v8_12), .second, .unset, .unset, .unset, .unset, .unset, .unset] []))) ?_
  intro v8_12 h_v8_12
  show own_Go p e below PO (T11.setTop (mkF m 125 #[.val (.int pA), .val (.int pB), .val (.int pC), .val (.long jR), .second, .val (.int v5_1), .val (.int v6_2), .val (.int v7_3), .val (.long v8_12), .second, .unset, .unset, .unset, .unset, .unset, .unset] []))
  refine own_back ?_ (fun t k => XS.iload X11.here hx rfl (hb hby at_125) rfl k)
  show own_Go p e below PO (T11.setTop (mkF m 127 #[.val (.int pA), .val (.int pB), .val (.int pC), .val (.long jR), .second, .val (.int v5_1), .val (.int v6_2), .val (.int v7_3), .val (.long v8_12), .second, .unset, .unset, .unset, .unset, .unset, .unset] [(.int v7_3)]))
  refine own_back ?_ (fun t k => XS.bipush X11.here hx rfl (hb hby at_127) k)
  show own_Go p e below PO (T11.setTop (mkF m 129 #[.val (.int pA), .val (.int pB), .val (.int pC), .val (.long jR), .second, .val (.int v5_1), .val (.int v6_2), .val (.int v7_3), .val (.long v8_12), .second, .unset, .unset, .unset, .unset, .unset, .unset] [(.int (8 : Int32)), (.int v7_3)]))
  by_cases hc129_13 : v7_3 = (8 : Int32)
  case pos =>
    refine own_back ?_ (fun t k => XS.icmpNo X11.here hx rfl (hb hby at_129) rfl (teq hc129_13).2 k)
    show own_Go p e below PO (T11.setTop (mkF m 132 #[.val (.int pA), .val (.int pB), .val (.int pC), .val (.long jR), .second, .val (.int v5_1), .val (.int v6_2), .val (.int v7_3), .val (.long v8_12), .second, .unset, .unset, .unset, .unset, .unset, .unset] []))
    refine own_back ?_ (fun t k => X11.ldc2Long hx hown (mvT hZ (hw _ (List.mem_of_getElem? (i := 5) rfl))) (g := (mkF m 132 #[.val (.int pA), .val (.int pB), .val (.int pC), .val (.long jR), .second, .val (.int v5_1), .val (.int v6_2), .val (.int v7_3), .val (.long v8_12), .second, .unset, .unset, .unset, .unset, .unset, .unset] [])) rfl (hb hby at_132) _ k)
    show own_Go p e below PO (T11.setTop (mkF m 135 #[.val (.int pA), .val (.int pB), .val (.int pC), .val (.long jR), .second, .val (.int v5_1), .val (.int v6_2), .val (.int v7_3), .val (.long v8_12), .second, .unset, .unset, .unset, .unset, .unset, .unset] [(.long (-1 : Int64))]))
    refine own_back ?_ (fun t k => XS.goto X11.here hx rfl (pc0 := 135) (pc' := 147) rfl (hb hby at_135) (by decide) (by decide) k)
    show own_Go p e below PO (T11.setTop (mkF m 147 #[.val (.int pA), .val (.int pB), .val (.int pC), .val (.long jR), .second, .val (.int v5_1), .val (.int v6_2), .val (.int v7_3), .val (.long v8_12), .second, .unset, .unset, .unset, .unset, .unset, .unset] [(.long (-1 : Int64))]))
    refine own_back ?_ (fun t k => XS.lstore X11.here hx rfl (hb hby at_147) rfl (l' := #[.val (.int pA), .val (.int pB), .val (.int pC), .val (.long jR), .second, .val (.int v5_1), .val (.int v6_2), .val (.int v7_3), .val (.long v8_12), .second, .val (.long (-1 : Int64)), .second, .unset, .unset, .unset, .unset]) rfl k)
    show own_Go p e below PO (T11.setTop (mkF m 149 #[.val (.int pA), .val (.int pB), .val (.int pC), .val (.long jR), .second, .val (.int v5_1), .val (.int v6_2), .val (.int v7_3), .val (.long v8_12), .second, .val (.long (-1 : Int64)), .second, .unset, .unset, .unset, .unset] []))
    refine own_back ?_ (fun t k => XS.lload X11.here hx rfl (hb hby at_149) rfl k)
    show own_Go p e below PO (T11.setTop (mkF m 151 #[.val (.int pA), .val (.int pB), .val (.int pC), .val (.long jR), .second, .val (.int v5_1), .val (.int v6_2), .val (.int v7_3), .val (.long v8_12), .second, .val (.long (-1 : Int64)), .second, .unset, .unset, .unset, .unset] [(.long v8_12)]))
    refine own_back ?_ (fun t k => XS.lload X11.here hx rfl (hb hby at_151) rfl k)
    show own_Go p e below PO (T11.setTop (mkF m 153 #[.val (.int pA), .val (.int pB), .val (.int pC), .val (.long jR), .second, .val (.int v5_1), .val (.int v6_2), .val (.int v7_3), .val (.long v8_12), .second, .val (.long (-1 : Int64)), .second, .unset, .unset, .unset, .unset] [(.long (-1 : Int64)), (.long v8_12)]))
    refine own_back ?_ (fun t k => XS.land X11.here hx rfl (hb hby at_153) rfl k)
    show own_Go p e below PO (T11.setTop (mkF m 154 #[.val (.int pA), .val (.int pB), .val (.int pC), .val (.long jR), .second, .val (.int v5_1), .val (.int v6_2), .val (.int v7_3), .val (.long v8_12), .second, .val (.long (-1 : Int64)), .second, .unset, .unset, .unset, .unset] [(.long (v8_12 &&& (-1 : Int64)))]))
    refine own_back ?_ (fun t k => XS.lloadN X11.here hx rfl (hb hby at_154) rfl k)
    show own_Go p e below PO (T11.setTop (mkF m 155 #[.val (.int pA), .val (.int pB), .val (.int pC), .val (.long jR), .second, .val (.int v5_1), .val (.int v6_2), .val (.int v7_3), .val (.long v8_12), .second, .val (.long (-1 : Int64)), .second, .unset, .unset, .unset, .unset] [(.long jR), (.long (v8_12 &&& (-1 : Int64)))]))
    refine own_back ?_ (fun t k => XS.lload X11.here hx rfl (hb hby at_155) rfl k)
    show own_Go p e below PO (T11.setTop (mkF m 157 #[.val (.int pA), .val (.int pB), .val (.int pC), .val (.long jR), .second, .val (.int v5_1), .val (.int v6_2), .val (.int v7_3), .val (.long v8_12), .second, .val (.long (-1 : Int64)), .second, .unset, .unset, .unset, .unset] [(.long (-1 : Int64)), (.long jR), (.long (v8_12 &&& (-1 : Int64)))]))
    refine own_back ?_ (fun t k => X11.ldc2Long hx hown (mvT hZ (hw _ (List.mem_of_getElem? (i := 5) rfl))) (g := (mkF m 157 #[.val (.int pA), .val (.int pB), .val (.int pC), .val (.long jR), .second, .val (.int v5_1), .val (.int v6_2), .val (.int v7_3), .val (.long v8_12), .second, .val (.long (-1 : Int64)), .second, .unset, .unset, .unset, .unset] [(.long (-1 : Int64)), (.long jR), (.long (v8_12 &&& (-1 : Int64)))])) rfl (hb hby at_157) _ k)
    show own_Go p e below PO (T11.setTop (mkF m 160 #[.val (.int pA), .val (.int pB), .val (.int pC), .val (.long jR), .second, .val (.int v5_1), .val (.int v6_2), .val (.int v7_3), .val (.long v8_12), .second, .val (.long (-1 : Int64)), .second, .unset, .unset, .unset, .unset] [(.long (-1 : Int64)), (.long (-1 : Int64)), (.long jR), (.long (v8_12 &&& (-1 : Int64)))]))
    refine own_back ?_ (fun t k => XS.lxor X11.here hx rfl (hb hby at_160) rfl k)
    show own_Go p e below PO (T11.setTop (mkF m 161 #[.val (.int pA), .val (.int pB), .val (.int pC), .val (.long jR), .second, .val (.int v5_1), .val (.int v6_2), .val (.int v7_3), .val (.long v8_12), .second, .val (.long (-1 : Int64)), .second, .unset, .unset, .unset, .unset] [(.long ((-1 : Int64) ^^^ (-1 : Int64))), (.long jR), (.long (v8_12 &&& (-1 : Int64)))]))
    refine own_back ?_ (fun t k => XS.land X11.here hx rfl (hb hby at_161) rfl k)
    show own_Go p e below PO (T11.setTop (mkF m 162 #[.val (.int pA), .val (.int pB), .val (.int pC), .val (.long jR), .second, .val (.int v5_1), .val (.int v6_2), .val (.int v7_3), .val (.long v8_12), .second, .val (.long (-1 : Int64)), .second, .unset, .unset, .unset, .unset] [(.long (jR &&& ((-1 : Int64) ^^^ (-1 : Int64)))), (.long (v8_12 &&& (-1 : Int64)))]))
    refine own_back ?_ (fun t k => XS.lor X11.here hx rfl (hb hby at_162) rfl k)
    show own_Go p e below PO (T11.setTop (mkF m 163 #[.val (.int pA), .val (.int pB), .val (.int pC), .val (.long jR), .second, .val (.int v5_1), .val (.int v6_2), .val (.int v7_3), .val (.long v8_12), .second, .val (.long (-1 : Int64)), .second, .unset, .unset, .unset, .unset] [(.long ((v8_12 &&& (-1 : Int64)) ||| (jR &&& ((-1 : Int64) ^^^ (-1 : Int64)))))]))
    refine own_back ?_ (fun t k => XS.lstore X11.here hx rfl (hb hby at_163) rfl (l' := #[.val (.int pA), .val (.int pB), .val (.int pC), .val (.long jR), .second, .val (.int v5_1), .val (.int v6_2), .val (.int v7_3), .val (.long v8_12), .second, .val (.long (-1 : Int64)), .second, .val (.long ((v8_12 &&& (-1 : Int64)) ||| (jR &&& ((-1 : Int64) ^^^ (-1 : Int64))))), .second, .unset, .unset]) rfl k)
    show own_Go p e below PO (T11.setTop (mkF m 165 #[.val (.int pA), .val (.int pB), .val (.int pC), .val (.long jR), .second, .val (.int v5_1), .val (.int v6_2), .val (.int v7_3), .val (.long v8_12), .second, .val (.long (-1 : Int64)), .second, .val (.long ((v8_12 &&& (-1 : Int64)) ||| (jR &&& ((-1 : Int64) ^^^ (-1 : Int64))))), .second, .unset, .unset] []))
    refine own_gen (A := Int64) ((v8_12 &&& (-1 : Int64)) ||| (jR &&& ((-1 : Int64) ^^^ (-1 : Int64)))) (fun v12_14 => own_Go p e below PO (T11.setTop (mkF m 165 #[.val (.int pA), .val (.int pB), .val (.int pC), .val (.long jR), .second, .val (.int v5_1), .val (.int v6_2), .val (.int v7_3), .val (.long v8_12), .second, .val (.long (-1 : Int64)), .second, .val (.long v12_14), .second, .unset, .unset] []))) ?_
    intro v12_14 h_v12_14
    show own_Go p e below PO (T11.setTop (mkF m 165 #[.val (.int pA), .val (.int pB), .val (.int pC), .val (.long jR), .second, .val (.int v5_1), .val (.int v6_2), .val (.int v7_3), .val (.long v8_12), .second, .val (.long (-1 : Int64)), .second, .val (.long v12_14), .second, .unset, .unset] []))
    refine own_back ?_ (fun t k => XS.bipush X11.here hx rfl (hb hby at_165) k)
    show own_Go p e below PO (T11.setTop (mkF m 167 #[.val (.int pA), .val (.int pB), .val (.int pC), .val (.long jR), .second, .val (.int v5_1), .val (.int v6_2), .val (.int v7_3), .val (.long v8_12), .second, .val (.long (-1 : Int64)), .second, .val (.long v12_14), .second, .unset, .unset] [(.int (9 : Int32))]))
    obtain ⟨T15, h15, k15, X15, e15, E15, A15, Ex15, st15⟩ := newPE X11 hx hZ (hw _ (List.mem_of_getElem? (i := 6) rfl)) e11 (g := (mkF m 167 #[.val (.int pA), .val (.int pB), .val (.int pC), .val (.long jR), .second, .val (.int v5_1), .val (.int v6_2), .val (.int v7_3), .val (.long v8_12), .second, .val (.long (-1 : Int64)), .second, .val (.long v12_14), .second, .unset, .unset] [(.int (9 : Int32))])) rfl (hb hby at_167) rfl (by decide) (cap := 9) (by decide) (by decide) (by decide) (by decide) (ad := "[I") (by decide)
    obtain ⟨b15, g15⟩ : ∃ z, z = h0.size := ⟨_, rfl⟩
    rw [← g15] at A15 Ex15 st15
    have sz_b15 : h0.size ≤ b15 := Nat.le_of_eq g15.symm
    have gn_b15 : n0 ≤ b15 := Nat.le_trans Z0 sz_b15
    have K15 : Keep h0 h15 [] := (Keep.refl h0 []).ext E15
    have Zh15 : n0 ≤ h15.size := Nat.le_trans Z0 K15.1
    have V15 : Arv Z h15 b15 k15 .int (9 : Int32) [(.int (0 : Int32)), (.int (0 : Int32)), (.int (0 : Int32)), (.int (0 : Int32)), (.int (0 : Int32)), (.int (0 : Int32)), (.int (0 : Int32)), (.int (0 : Int32)), (.int (0 : Int32))] (.int (0 : Int32)) := (Arv.new A15 (by decide)).pad (pad_rep [] (.int (0 : Int32)) 9)
    refine own_back ?_ st15
    show own_Go p e below PO (T15.setTop (mkF m 169 #[.val (.int pA), .val (.int pB), .val (.int pC), .val (.long jR), .second, .val (.int v5_1), .val (.int v6_2), .val (.int v7_3), .val (.long v8_12), .second, .val (.long (-1 : Int64)), .second, .val (.long v12_14), .second, .unset, .unset] [(.ref b15)]))
    refine own_back ?_ (fun t k => XS.dup X15.here hx rfl (hb hby at_169) rfl rfl k)
    show own_Go p e below PO (T15.setTop (mkF m 170 #[.val (.int pA), .val (.int pB), .val (.int pC), .val (.long jR), .second, .val (.int v5_1), .val (.int v6_2), .val (.int v7_3), .val (.long v8_12), .second, .val (.long (-1 : Int64)), .second, .val (.long v12_14), .second, .unset, .unset] [(.ref b15), (.ref b15)]))
    refine own_back ?_ (fun t k => XS.iconst X15.here hx rfl (hb hby at_170) k)
    show own_Go p e below PO (T15.setTop (mkF m 171 #[.val (.int pA), .val (.int pB), .val (.int pC), .val (.long jR), .second, .val (.int v5_1), .val (.int v6_2), .val (.int v7_3), .val (.long v8_12), .second, .val (.long (-1 : Int64)), .second, .val (.long v12_14), .second, .unset, .unset] [(.int (0 : Int32)), (.ref b15), (.ref b15)]))
    refine own_back ?_ (fun t k => XS.iconst X15.here hx rfl (hb hby at_171) k)
    show own_Go p e below PO (T15.setTop (mkF m 172 #[.val (.int pA), .val (.int pB), .val (.int pC), .val (.long jR), .second, .val (.int v5_1), .val (.int v6_2), .val (.int v7_3), .val (.long v8_12), .second, .val (.long (-1 : Int64)), .second, .val (.long v12_14), .second, .unset, .unset] [(.int (1 : Int32)), (.int (0 : Int32)), (.ref b15), (.ref b15)]))
    obtain ⟨T16, h16, X16, e16, W16, V16, st16⟩ := own_stI X15 hx hZ e15 V15 (j := (0 : Int32)) ⟨by decide, by decide⟩ (i := 0) rfl (by decide) (g := (mkF m 172 #[.val (.int pA), .val (.int pB), .val (.int pC), .val (.long jR), .second, .val (.int v5_1), .val (.int v6_2), .val (.int v7_3), .val (.long v8_12), .second, .val (.long (-1 : Int64)), .second, .val (.long v12_14), .second, .unset, .unset] [(.int (1 : Int32)), (.int (0 : Int32)), (.ref b15), (.ref b15)])) rfl rfl (hb hby at_172)
    replace V16 : Arv Z h16 b15 k15 .int (9 : Int32) [(.int (1 : Int32)), (.int (0 : Int32)), (.int (0 : Int32)), (.int (0 : Int32)), (.int (0 : Int32)), (.int (0 : Int32)), (.int (0 : Int32)), (.int (0 : Int32)), (.int (0 : Int32))] (.int (0 : Int32)) := V16
    have f16_17 := Ex15.wr W16
    have K16 : Keep h0 h16 [] := (K15).wr W16 (Or.inr sz_b15)
    have N16 := Fr.snoc X16 N11 gn_b15
    have Zh16 : n0 ≤ h16.size := Nat.le_trans Z0 K16.1
    refine own_back ?_ st16
    show own_Go p e below PO (T16.setTop (mkF m 173 #[.val (.int pA), .val (.int pB), .val (.int pC), .val (.long jR), .second, .val (.int v5_1), .val (.int v6_2), .val (.int v7_3), .val (.long v8_12), .second, .val (.long (-1 : Int64)), .second, .val (.long v12_14), .second, .unset, .unset] [(.ref b15)]))
    refine own_back ?_ (fun t k => XS.dup X16.here hx rfl (hb hby at_173) rfl rfl k)
    show own_Go p e below PO (T16.setTop (mkF m 174 #[.val (.int pA), .val (.int pB), .val (.int pC), .val (.long jR), .second, .val (.int v5_1), .val (.int v6_2), .val (.int v7_3), .val (.long v8_12), .second, .val (.long (-1 : Int64)), .second, .val (.long v12_14), .second, .unset, .unset] [(.ref b15), (.ref b15)]))
    refine own_back ?_ (fun t k => XS.iconst X16.here hx rfl (hb hby at_174) k)
    show own_Go p e below PO (T16.setTop (mkF m 175 #[.val (.int pA), .val (.int pB), .val (.int pC), .val (.long jR), .second, .val (.int v5_1), .val (.int v6_2), .val (.int v7_3), .val (.long v8_12), .second, .val (.long (-1 : Int64)), .second, .val (.long v12_14), .second, .unset, .unset] [(.int (1 : Int32)), (.ref b15), (.ref b15)]))
    refine own_back ?_ (fun t k => XS.bipush X16.here hx rfl (hb hby at_175) k)
    show own_Go p e below PO (T16.setTop (mkF m 177 #[.val (.int pA), .val (.int pB), .val (.int pC), .val (.long jR), .second, .val (.int v5_1), .val (.int v6_2), .val (.int v7_3), .val (.long v8_12), .second, .val (.long (-1 : Int64)), .second, .val (.long v12_14), .second, .unset, .unset] [(.int (10 : Int32)), (.int (1 : Int32)), (.ref b15), (.ref b15)]))
    obtain ⟨T18, h18, X18, e18, W18, V18, st18⟩ := own_stI X16 hx hZ e16 V16 (j := (1 : Int32)) ⟨by decide, by decide⟩ (i := 1) rfl (by decide) (g := (mkF m 177 #[.val (.int pA), .val (.int pB), .val (.int pC), .val (.long jR), .second, .val (.int v5_1), .val (.int v6_2), .val (.int v7_3), .val (.long v8_12), .second, .val (.long (-1 : Int64)), .second, .val (.long v12_14), .second, .unset, .unset] [(.int (10 : Int32)), (.int (1 : Int32)), (.ref b15), (.ref b15)])) rfl rfl (hb hby at_177)
    replace V18 : Arv Z h18 b15 k15 .int (9 : Int32) [(.int (1 : Int32)), (.int (10 : Int32)), (.int (0 : Int32)), (.int (0 : Int32)), (.int (0 : Int32)), (.int (0 : Int32)), (.int (0 : Int32)), (.int (0 : Int32)), (.int (0 : Int32))] (.int (0 : Int32)) := V18
    have f18_19 := f16_17.wr W18
    have K18 : Keep h0 h18 [] := (K16).wr W18 (Or.inr sz_b15)
    have N18 := Fr.snoc X18 N16 gn_b15
    have Zh18 : n0 ≤ h18.size := Nat.le_trans Z0 K18.1
    refine own_back ?_ st18
    show own_Go p e below PO (T18.setTop (mkF m 178 #[.val (.int pA), .val (.int pB), .val (.int pC), .val (.long jR), .second, .val (.int v5_1), .val (.int v6_2), .val (.int v7_3), .val (.long v8_12), .second, .val (.long (-1 : Int64)), .second, .val (.long v12_14), .second, .unset, .unset] [(.ref b15)]))
    refine own_back ?_ (fun t k => XS.dup X18.here hx rfl (hb hby at_178) rfl rfl k)
    show own_Go p e below PO (T18.setTop (mkF m 179 #[.val (.int pA), .val (.int pB), .val (.int pC), .val (.long jR), .second, .val (.int v5_1), .val (.int v6_2), .val (.int v7_3), .val (.long v8_12), .second, .val (.long (-1 : Int64)), .second, .val (.long v12_14), .second, .unset, .unset] [(.ref b15), (.ref b15)]))
    refine own_back ?_ (fun t k => XS.iconst X18.here hx rfl (hb hby at_179) k)
    show own_Go p e below PO (T18.setTop (mkF m 180 #[.val (.int pA), .val (.int pB), .val (.int pC), .val (.long jR), .second, .val (.int v5_1), .val (.int v6_2), .val (.int v7_3), .val (.long v8_12), .second, .val (.long (-1 : Int64)), .second, .val (.long v12_14), .second, .unset, .unset] [(.int (2 : Int32)), (.ref b15), (.ref b15)]))
    refine own_back ?_ (fun t k => XS.bipush X18.here hx rfl (hb hby at_180) k)
    show own_Go p e below PO (T18.setTop (mkF m 182 #[.val (.int pA), .val (.int pB), .val (.int pC), .val (.long jR), .second, .val (.int v5_1), .val (.int v6_2), .val (.int v7_3), .val (.long v8_12), .second, .val (.long (-1 : Int64)), .second, .val (.long v12_14), .second, .unset, .unset] [(.int (100 : Int32)), (.int (2 : Int32)), (.ref b15), (.ref b15)]))
    obtain ⟨T20, h20, X20, e20, W20, V20, st20⟩ := own_stI X18 hx hZ e18 V18 (j := (2 : Int32)) ⟨by decide, by decide⟩ (i := 2) rfl (by decide) (g := (mkF m 182 #[.val (.int pA), .val (.int pB), .val (.int pC), .val (.long jR), .second, .val (.int v5_1), .val (.int v6_2), .val (.int v7_3), .val (.long v8_12), .second, .val (.long (-1 : Int64)), .second, .val (.long v12_14), .second, .unset, .unset] [(.int (100 : Int32)), (.int (2 : Int32)), (.ref b15), (.ref b15)])) rfl rfl (hb hby at_182)
    replace V20 : Arv Z h20 b15 k15 .int (9 : Int32) [(.int (1 : Int32)), (.int (10 : Int32)), (.int (100 : Int32)), (.int (0 : Int32)), (.int (0 : Int32)), (.int (0 : Int32)), (.int (0 : Int32)), (.int (0 : Int32)), (.int (0 : Int32))] (.int (0 : Int32)) := V20
    have f20_21 := f18_19.wr W20
    have K20 : Keep h0 h20 [] := (K18).wr W20 (Or.inr sz_b15)
    have N20 := Fr.snoc X20 N18 gn_b15
    have Zh20 : n0 ≤ h20.size := Nat.le_trans Z0 K20.1
    refine own_back ?_ st20
    show own_Go p e below PO (T20.setTop (mkF m 183 #[.val (.int pA), .val (.int pB), .val (.int pC), .val (.long jR), .second, .val (.int v5_1), .val (.int v6_2), .val (.int v7_3), .val (.long v8_12), .second, .val (.long (-1 : Int64)), .second, .val (.long v12_14), .second, .unset, .unset] [(.ref b15)]))
    refine own_back ?_ (fun t k => XS.dup X20.here hx rfl (hb hby at_183) rfl rfl k)
    show own_Go p e below PO (T20.setTop (mkF m 184 #[.val (.int pA), .val (.int pB), .val (.int pC), .val (.long jR), .second, .val (.int v5_1), .val (.int v6_2), .val (.int v7_3), .val (.long v8_12), .second, .val (.long (-1 : Int64)), .second, .val (.long v12_14), .second, .unset, .unset] [(.ref b15), (.ref b15)]))
    refine own_back ?_ (fun t k => XS.iconst X20.here hx rfl (hb hby at_184) k)
    show own_Go p e below PO (T20.setTop (mkF m 185 #[.val (.int pA), .val (.int pB), .val (.int pC), .val (.long jR), .second, .val (.int v5_1), .val (.int v6_2), .val (.int v7_3), .val (.long v8_12), .second, .val (.long (-1 : Int64)), .second, .val (.long v12_14), .second, .unset, .unset] [(.int (3 : Int32)), (.ref b15), (.ref b15)]))
    refine own_back ?_ (fun t k => XS.sipush X20.here hx rfl (hb hby at_185) k)
    show own_Go p e below PO (T20.setTop (mkF m 188 #[.val (.int pA), .val (.int pB), .val (.int pC), .val (.long jR), .second, .val (.int v5_1), .val (.int v6_2), .val (.int v7_3), .val (.long v8_12), .second, .val (.long (-1 : Int64)), .second, .val (.long v12_14), .second, .unset, .unset] [(.int (1000 : Int32)), (.int (3 : Int32)), (.ref b15), (.ref b15)]))
    obtain ⟨T22, h22, X22, e22, W22, V22, st22⟩ := own_stI X20 hx hZ e20 V20 (j := (3 : Int32)) ⟨by decide, by decide⟩ (i := 3) rfl (by decide) (g := (mkF m 188 #[.val (.int pA), .val (.int pB), .val (.int pC), .val (.long jR), .second, .val (.int v5_1), .val (.int v6_2), .val (.int v7_3), .val (.long v8_12), .second, .val (.long (-1 : Int64)), .second, .val (.long v12_14), .second, .unset, .unset] [(.int (1000 : Int32)), (.int (3 : Int32)), (.ref b15), (.ref b15)])) rfl rfl (hb hby at_188)
    replace V22 : Arv Z h22 b15 k15 .int (9 : Int32) [(.int (1 : Int32)), (.int (10 : Int32)), (.int (100 : Int32)), (.int (1000 : Int32)), (.int (0 : Int32)), (.int (0 : Int32)), (.int (0 : Int32)), (.int (0 : Int32)), (.int (0 : Int32))] (.int (0 : Int32)) := V22
    have f22_23 := f20_21.wr W22
    have K22 : Keep h0 h22 [] := (K20).wr W22 (Or.inr sz_b15)
    have N22 := Fr.snoc X22 N20 gn_b15
    have Zh22 : n0 ≤ h22.size := Nat.le_trans Z0 K22.1
    refine own_back ?_ st22
    show own_Go p e below PO (T22.setTop (mkF m 189 #[.val (.int pA), .val (.int pB), .val (.int pC), .val (.long jR), .second, .val (.int v5_1), .val (.int v6_2), .val (.int v7_3), .val (.long v8_12), .second, .val (.long (-1 : Int64)), .second, .val (.long v12_14), .second, .unset, .unset] [(.ref b15)]))
    refine own_back ?_ (fun t k => XS.dup X22.here hx rfl (hb hby at_189) rfl rfl k)
    show own_Go p e below PO (T22.setTop (mkF m 190 #[.val (.int pA), .val (.int pB), .val (.int pC), .val (.long jR), .second, .val (.int v5_1), .val (.int v6_2), .val (.int v7_3), .val (.long v8_12), .second, .val (.long (-1 : Int64)), .second, .val (.long v12_14), .second, .unset, .unset] [(.ref b15), (.ref b15)]))
    refine own_back ?_ (fun t k => XS.iconst X22.here hx rfl (hb hby at_190) k)
    show own_Go p e below PO (T22.setTop (mkF m 191 #[.val (.int pA), .val (.int pB), .val (.int pC), .val (.long jR), .second, .val (.int v5_1), .val (.int v6_2), .val (.int v7_3), .val (.long v8_12), .second, .val (.long (-1 : Int64)), .second, .val (.long v12_14), .second, .unset, .unset] [(.int (4 : Int32)), (.ref b15), (.ref b15)]))
    refine own_back ?_ (fun t k => XS.sipush X22.here hx rfl (hb hby at_191) k)
    show own_Go p e below PO (T22.setTop (mkF m 194 #[.val (.int pA), .val (.int pB), .val (.int pC), .val (.long jR), .second, .val (.int v5_1), .val (.int v6_2), .val (.int v7_3), .val (.long v8_12), .second, .val (.long (-1 : Int64)), .second, .val (.long v12_14), .second, .unset, .unset] [(.int (10000 : Int32)), (.int (4 : Int32)), (.ref b15), (.ref b15)]))
    obtain ⟨T24, h24, X24, e24, W24, V24, st24⟩ := own_stI X22 hx hZ e22 V22 (j := (4 : Int32)) ⟨by decide, by decide⟩ (i := 4) rfl (by decide) (g := (mkF m 194 #[.val (.int pA), .val (.int pB), .val (.int pC), .val (.long jR), .second, .val (.int v5_1), .val (.int v6_2), .val (.int v7_3), .val (.long v8_12), .second, .val (.long (-1 : Int64)), .second, .val (.long v12_14), .second, .unset, .unset] [(.int (10000 : Int32)), (.int (4 : Int32)), (.ref b15), (.ref b15)])) rfl rfl (hb hby at_194)
    replace V24 : Arv Z h24 b15 k15 .int (9 : Int32) [(.int (1 : Int32)), (.int (10 : Int32)), (.int (100 : Int32)), (.int (1000 : Int32)), (.int (10000 : Int32)), (.int (0 : Int32)), (.int (0 : Int32)), (.int (0 : Int32)), (.int (0 : Int32))] (.int (0 : Int32)) := V24
    have f24_25 := f22_23.wr W24
    have K24 : Keep h0 h24 [] := (K22).wr W24 (Or.inr sz_b15)
    have N24 := Fr.snoc X24 N22 gn_b15
    have Zh24 : n0 ≤ h24.size := Nat.le_trans Z0 K24.1
    refine own_back ?_ st24
    show own_Go p e below PO (T24.setTop (mkF m 195 #[.val (.int pA), .val (.int pB), .val (.int pC), .val (.long jR), .second, .val (.int v5_1), .val (.int v6_2), .val (.int v7_3), .val (.long v8_12), .second, .val (.long (-1 : Int64)), .second, .val (.long v12_14), .second, .unset, .unset] [(.ref b15)]))
    refine own_back ?_ (fun t k => XS.dup X24.here hx rfl (hb hby at_195) rfl rfl k)
    show own_Go p e below PO (T24.setTop (mkF m 196 #[.val (.int pA), .val (.int pB), .val (.int pC), .val (.long jR), .second, .val (.int v5_1), .val (.int v6_2), .val (.int v7_3), .val (.long v8_12), .second, .val (.long (-1 : Int64)), .second, .val (.long v12_14), .second, .unset, .unset] [(.ref b15), (.ref b15)]))
    refine own_back ?_ (fun t k => XS.iconst X24.here hx rfl (hb hby at_196) k)
    show own_Go p e below PO (T24.setTop (mkF m 197 #[.val (.int pA), .val (.int pB), .val (.int pC), .val (.long jR), .second, .val (.int v5_1), .val (.int v6_2), .val (.int v7_3), .val (.long v8_12), .second, .val (.long (-1 : Int64)), .second, .val (.long v12_14), .second, .unset, .unset] [(.int (5 : Int32)), (.ref b15), (.ref b15)]))
    refine own_back ?_ (fun t k => X24.ldcInt hx hown (mvT hZ (hw _ (List.mem_of_getElem? (i := 7) rfl))) (g := (mkF m 197 #[.val (.int pA), .val (.int pB), .val (.int pC), .val (.long jR), .second, .val (.int v5_1), .val (.int v6_2), .val (.int v7_3), .val (.long v8_12), .second, .val (.long (-1 : Int64)), .second, .val (.long v12_14), .second, .unset, .unset] [(.int (5 : Int32)), (.ref b15), (.ref b15)])) rfl (hb hby at_197) _ k)
    show own_Go p e below PO (T24.setTop (mkF m 199 #[.val (.int pA), .val (.int pB), .val (.int pC), .val (.long jR), .second, .val (.int v5_1), .val (.int v6_2), .val (.int v7_3), .val (.long v8_12), .second, .val (.long (-1 : Int64)), .second, .val (.long v12_14), .second, .unset, .unset] [(.int (100000 : Int32)), (.int (5 : Int32)), (.ref b15), (.ref b15)]))
    obtain ⟨T26, h26, X26, e26, W26, V26, st26⟩ := own_stI X24 hx hZ e24 V24 (j := (5 : Int32)) ⟨by decide, by decide⟩ (i := 5) rfl (by decide) (g := (mkF m 199 #[.val (.int pA), .val (.int pB), .val (.int pC), .val (.long jR), .second, .val (.int v5_1), .val (.int v6_2), .val (.int v7_3), .val (.long v8_12), .second, .val (.long (-1 : Int64)), .second, .val (.long v12_14), .second, .unset, .unset] [(.int (100000 : Int32)), (.int (5 : Int32)), (.ref b15), (.ref b15)])) rfl rfl (hb hby at_199)
    replace V26 : Arv Z h26 b15 k15 .int (9 : Int32) [(.int (1 : Int32)), (.int (10 : Int32)), (.int (100 : Int32)), (.int (1000 : Int32)), (.int (10000 : Int32)), (.int (100000 : Int32)), (.int (0 : Int32)), (.int (0 : Int32)), (.int (0 : Int32))] (.int (0 : Int32)) := V26
    have f26_27 := f24_25.wr W26
    have K26 : Keep h0 h26 [] := (K24).wr W26 (Or.inr sz_b15)
    have N26 := Fr.snoc X26 N24 gn_b15
    have Zh26 : n0 ≤ h26.size := Nat.le_trans Z0 K26.1
    refine own_back ?_ st26
    show own_Go p e below PO (T26.setTop (mkF m 200 #[.val (.int pA), .val (.int pB), .val (.int pC), .val (.long jR), .second, .val (.int v5_1), .val (.int v6_2), .val (.int v7_3), .val (.long v8_12), .second, .val (.long (-1 : Int64)), .second, .val (.long v12_14), .second, .unset, .unset] [(.ref b15)]))
    refine own_back ?_ (fun t k => XS.dup X26.here hx rfl (hb hby at_200) rfl rfl k)
    show own_Go p e below PO (T26.setTop (mkF m 201 #[.val (.int pA), .val (.int pB), .val (.int pC), .val (.long jR), .second, .val (.int v5_1), .val (.int v6_2), .val (.int v7_3), .val (.long v8_12), .second, .val (.long (-1 : Int64)), .second, .val (.long v12_14), .second, .unset, .unset] [(.ref b15), (.ref b15)]))
    refine own_back ?_ (fun t k => XS.bipush X26.here hx rfl (hb hby at_201) k)
    show own_Go p e below PO (T26.setTop (mkF m 203 #[.val (.int pA), .val (.int pB), .val (.int pC), .val (.long jR), .second, .val (.int v5_1), .val (.int v6_2), .val (.int v7_3), .val (.long v8_12), .second, .val (.long (-1 : Int64)), .second, .val (.long v12_14), .second, .unset, .unset] [(.int (6 : Int32)), (.ref b15), (.ref b15)]))
    refine own_back ?_ (fun t k => X26.ldcInt hx hown (mvT hZ (hw _ (List.mem_of_getElem? (i := 8) rfl))) (g := (mkF m 203 #[.val (.int pA), .val (.int pB), .val (.int pC), .val (.long jR), .second, .val (.int v5_1), .val (.int v6_2), .val (.int v7_3), .val (.long v8_12), .second, .val (.long (-1 : Int64)), .second, .val (.long v12_14), .second, .unset, .unset] [(.int (6 : Int32)), (.ref b15), (.ref b15)])) rfl (hb hby at_203) _ k)
    show own_Go p e below PO (T26.setTop (mkF m 205 #[.val (.int pA), .val (.int pB), .val (.int pC), .val (.long jR), .second, .val (.int v5_1), .val (.int v6_2), .val (.int v7_3), .val (.long v8_12), .second, .val (.long (-1 : Int64)), .second, .val (.long v12_14), .second, .unset, .unset] [(.int (1000000 : Int32)), (.int (6 : Int32)), (.ref b15), (.ref b15)]))
    obtain ⟨T28, h28, X28, e28, W28, V28, st28⟩ := own_stI X26 hx hZ e26 V26 (j := (6 : Int32)) ⟨by decide, by decide⟩ (i := 6) rfl (by decide) (g := (mkF m 205 #[.val (.int pA), .val (.int pB), .val (.int pC), .val (.long jR), .second, .val (.int v5_1), .val (.int v6_2), .val (.int v7_3), .val (.long v8_12), .second, .val (.long (-1 : Int64)), .second, .val (.long v12_14), .second, .unset, .unset] [(.int (1000000 : Int32)), (.int (6 : Int32)), (.ref b15), (.ref b15)])) rfl rfl (hb hby at_205)
    replace V28 : Arv Z h28 b15 k15 .int (9 : Int32) [(.int (1 : Int32)), (.int (10 : Int32)), (.int (100 : Int32)), (.int (1000 : Int32)), (.int (10000 : Int32)), (.int (100000 : Int32)), (.int (1000000 : Int32)), (.int (0 : Int32)), (.int (0 : Int32))] (.int (0 : Int32)) := V28
    have f28_29 := f26_27.wr W28
    have K28 : Keep h0 h28 [] := (K26).wr W28 (Or.inr sz_b15)
    have N28 := Fr.snoc X28 N26 gn_b15
    have Zh28 : n0 ≤ h28.size := Nat.le_trans Z0 K28.1
    refine own_back ?_ st28
    show own_Go p e below PO (T28.setTop (mkF m 206 #[.val (.int pA), .val (.int pB), .val (.int pC), .val (.long jR), .second, .val (.int v5_1), .val (.int v6_2), .val (.int v7_3), .val (.long v8_12), .second, .val (.long (-1 : Int64)), .second, .val (.long v12_14), .second, .unset, .unset] [(.ref b15)]))
    refine own_back ?_ (fun t k => XS.dup X28.here hx rfl (hb hby at_206) rfl rfl k)
    show own_Go p e below PO (T28.setTop (mkF m 207 #[.val (.int pA), .val (.int pB), .val (.int pC), .val (.long jR), .second, .val (.int v5_1), .val (.int v6_2), .val (.int v7_3), .val (.long v8_12), .second, .val (.long (-1 : Int64)), .second, .val (.long v12_14), .second, .unset, .unset] [(.ref b15), (.ref b15)]))
    refine own_back ?_ (fun t k => XS.bipush X28.here hx rfl (hb hby at_207) k)
    show own_Go p e below PO (T28.setTop (mkF m 209 #[.val (.int pA), .val (.int pB), .val (.int pC), .val (.long jR), .second, .val (.int v5_1), .val (.int v6_2), .val (.int v7_3), .val (.long v8_12), .second, .val (.long (-1 : Int64)), .second, .val (.long v12_14), .second, .unset, .unset] [(.int (7 : Int32)), (.ref b15), (.ref b15)]))
    refine own_back ?_ (fun t k => X28.ldcInt hx hown (mvT hZ (hw _ (List.mem_of_getElem? (i := 9) rfl))) (g := (mkF m 209 #[.val (.int pA), .val (.int pB), .val (.int pC), .val (.long jR), .second, .val (.int v5_1), .val (.int v6_2), .val (.int v7_3), .val (.long v8_12), .second, .val (.long (-1 : Int64)), .second, .val (.long v12_14), .second, .unset, .unset] [(.int (7 : Int32)), (.ref b15), (.ref b15)])) rfl (hb hby at_209) _ k)
    show own_Go p e below PO (T28.setTop (mkF m 211 #[.val (.int pA), .val (.int pB), .val (.int pC), .val (.long jR), .second, .val (.int v5_1), .val (.int v6_2), .val (.int v7_3), .val (.long v8_12), .second, .val (.long (-1 : Int64)), .second, .val (.long v12_14), .second, .unset, .unset] [(.int (10000000 : Int32)), (.int (7 : Int32)), (.ref b15), (.ref b15)]))
    obtain ⟨T30, h30, X30, e30, W30, V30, st30⟩ := own_stI X28 hx hZ e28 V28 (j := (7 : Int32)) ⟨by decide, by decide⟩ (i := 7) rfl (by decide) (g := (mkF m 211 #[.val (.int pA), .val (.int pB), .val (.int pC), .val (.long jR), .second, .val (.int v5_1), .val (.int v6_2), .val (.int v7_3), .val (.long v8_12), .second, .val (.long (-1 : Int64)), .second, .val (.long v12_14), .second, .unset, .unset] [(.int (10000000 : Int32)), (.int (7 : Int32)), (.ref b15), (.ref b15)])) rfl rfl (hb hby at_211)
    replace V30 : Arv Z h30 b15 k15 .int (9 : Int32) [(.int (1 : Int32)), (.int (10 : Int32)), (.int (100 : Int32)), (.int (1000 : Int32)), (.int (10000 : Int32)), (.int (100000 : Int32)), (.int (1000000 : Int32)), (.int (10000000 : Int32)), (.int (0 : Int32))] (.int (0 : Int32)) := V30
    have f30_31 := f28_29.wr W30
    have K30 : Keep h0 h30 [] := (K28).wr W30 (Or.inr sz_b15)
    have N30 := Fr.snoc X30 N28 gn_b15
    have Zh30 : n0 ≤ h30.size := Nat.le_trans Z0 K30.1
    refine own_back ?_ st30
    show own_Go p e below PO (T30.setTop (mkF m 212 #[.val (.int pA), .val (.int pB), .val (.int pC), .val (.long jR), .second, .val (.int v5_1), .val (.int v6_2), .val (.int v7_3), .val (.long v8_12), .second, .val (.long (-1 : Int64)), .second, .val (.long v12_14), .second, .unset, .unset] [(.ref b15)]))
    refine own_back ?_ (fun t k => XS.dup X30.here hx rfl (hb hby at_212) rfl rfl k)
    show own_Go p e below PO (T30.setTop (mkF m 213 #[.val (.int pA), .val (.int pB), .val (.int pC), .val (.long jR), .second, .val (.int v5_1), .val (.int v6_2), .val (.int v7_3), .val (.long v8_12), .second, .val (.long (-1 : Int64)), .second, .val (.long v12_14), .second, .unset, .unset] [(.ref b15), (.ref b15)]))
    refine own_back ?_ (fun t k => XS.bipush X30.here hx rfl (hb hby at_213) k)
    show own_Go p e below PO (T30.setTop (mkF m 215 #[.val (.int pA), .val (.int pB), .val (.int pC), .val (.long jR), .second, .val (.int v5_1), .val (.int v6_2), .val (.int v7_3), .val (.long v8_12), .second, .val (.long (-1 : Int64)), .second, .val (.long v12_14), .second, .unset, .unset] [(.int (8 : Int32)), (.ref b15), (.ref b15)]))
    refine own_back ?_ (fun t k => X30.ldcInt hx hown (mvT hZ (hw _ (List.mem_of_getElem? (i := 10) rfl))) (g := (mkF m 215 #[.val (.int pA), .val (.int pB), .val (.int pC), .val (.long jR), .second, .val (.int v5_1), .val (.int v6_2), .val (.int v7_3), .val (.long v8_12), .second, .val (.long (-1 : Int64)), .second, .val (.long v12_14), .second, .unset, .unset] [(.int (8 : Int32)), (.ref b15), (.ref b15)])) rfl (hb hby at_215) _ k)
    show own_Go p e below PO (T30.setTop (mkF m 217 #[.val (.int pA), .val (.int pB), .val (.int pC), .val (.long jR), .second, .val (.int v5_1), .val (.int v6_2), .val (.int v7_3), .val (.long v8_12), .second, .val (.long (-1 : Int64)), .second, .val (.long v12_14), .second, .unset, .unset] [(.int (100000000 : Int32)), (.int (8 : Int32)), (.ref b15), (.ref b15)]))
    obtain ⟨T32, h32, X32, e32, W32, V32, st32⟩ := own_stI X30 hx hZ e30 V30 (j := (8 : Int32)) ⟨by decide, by decide⟩ (i := 8) rfl (by decide) (g := (mkF m 217 #[.val (.int pA), .val (.int pB), .val (.int pC), .val (.long jR), .second, .val (.int v5_1), .val (.int v6_2), .val (.int v7_3), .val (.long v8_12), .second, .val (.long (-1 : Int64)), .second, .val (.long v12_14), .second, .unset, .unset] [(.int (100000000 : Int32)), (.int (8 : Int32)), (.ref b15), (.ref b15)])) rfl rfl (hb hby at_217)
    replace V32 : Arv Z h32 b15 k15 .int (9 : Int32) [(.int (1 : Int32)), (.int (10 : Int32)), (.int (100 : Int32)), (.int (1000 : Int32)), (.int (10000 : Int32)), (.int (100000 : Int32)), (.int (1000000 : Int32)), (.int (10000000 : Int32)), (.int (100000000 : Int32))] (.int (0 : Int32)) := V32
    have f32_33 := f30_31.wr W32
    have K32 : Keep h0 h32 [] := (K30).wr W32 (Or.inr sz_b15)
    have N32 := Fr.snoc X32 N30 gn_b15
    have Zh32 : n0 ≤ h32.size := Nat.le_trans Z0 K32.1
    refine own_back ?_ st32
    show own_Go p e below PO (T32.setTop (mkF m 218 #[.val (.int pA), .val (.int pB), .val (.int pC), .val (.long jR), .second, .val (.int v5_1), .val (.int v6_2), .val (.int v7_3), .val (.long v8_12), .second, .val (.long (-1 : Int64)), .second, .val (.long v12_14), .second, .unset, .unset] [(.ref b15)]))
    refine own_back ?_ (fun t k => XS.astore X32.here hx rfl (hb hby at_218) rfl rfl (l' := #[.val (.int pA), .val (.int pB), .val (.int pC), .val (.long jR), .second, .val (.int v5_1), .val (.int v6_2), .val (.int v7_3), .val (.long v8_12), .second, .val (.long (-1 : Int64)), .second, .val (.long v12_14), .second, .val (.ref b15), .unset]) rfl k)
    show own_Go p e below PO (T32.setTop (mkF m 220 #[.val (.int pA), .val (.int pB), .val (.int pC), .val (.long jR), .second, .val (.int v5_1), .val (.int v6_2), .val (.int v7_3), .val (.long v8_12), .second, .val (.long (-1 : Int64)), .second, .val (.long v12_14), .second, .val (.ref b15), .unset] []))
    refine own_back ?_ (fun t k => XS.iload X32.here hx rfl (hb hby at_220) rfl k)
    show own_Go p e below PO (T32.setTop (mkF m 222 #[.val (.int pA), .val (.int pB), .val (.int pC), .val (.long jR), .second, .val (.int v5_1), .val (.int v6_2), .val (.int v7_3), .val (.long v8_12), .second, .val (.long (-1 : Int64)), .second, .val (.long v12_14), .second, .val (.ref b15), .unset] [(.int v5_1)]))
    refine own_back ?_ (fun t k => XS.sipush X32.here hx rfl (hb hby at_222) k)
    show own_Go p e below PO (T32.setTop (mkF m 225 #[.val (.int pA), .val (.int pB), .val (.int pC), .val (.long jR), .second, .val (.int v5_1), .val (.int v6_2), .val (.int v7_3), .val (.long v8_12), .second, .val (.long (-1 : Int64)), .second, .val (.long v12_14), .second, .val (.ref b15), .unset] [(.int (10000 : Int32)), (.int v5_1)]))
    refine own_back ?_ (fun t k => XS.imul X32.here hx rfl (hb hby at_225) rfl k)
    show own_Go p e below PO (T32.setTop (mkF m 226 #[.val (.int pA), .val (.int pB), .val (.int pC), .val (.long jR), .second, .val (.int v5_1), .val (.int v6_2), .val (.int v7_3), .val (.long v8_12), .second, .val (.long (-1 : Int64)), .second, .val (.long v12_14), .second, .val (.ref b15), .unset] [(.int (v5_1 * (10000 : Int32)))]))
    refine own_back ?_ (fun t k => XS.iload X32.here hx rfl (hb hby at_226) rfl k)
    show own_Go p e below PO (T32.setTop (mkF m 228 #[.val (.int pA), .val (.int pB), .val (.int pC), .val (.long jR), .second, .val (.int v5_1), .val (.int v6_2), .val (.int v7_3), .val (.long v8_12), .second, .val (.long (-1 : Int64)), .second, .val (.long v12_14), .second, .val (.ref b15), .unset] [(.int v6_2), (.int (v5_1 * (10000 : Int32)))]))
    refine own_back ?_ (fun t k => XS.iadd X32.here hx rfl (hb hby at_228) rfl k)
    show own_Go p e below PO (T32.setTop (mkF m 229 #[.val (.int pA), .val (.int pB), .val (.int pC), .val (.long jR), .second, .val (.int v5_1), .val (.int v6_2), .val (.int v7_3), .val (.long v8_12), .second, .val (.long (-1 : Int64)), .second, .val (.long v12_14), .second, .val (.ref b15), .unset] [(.int ((v5_1 * (10000 : Int32)) + v6_2))]))
    subst hc129_13
    show own_Go p e below PO (T32.setTop (mkF m 229 #[.val (.int pA), .val (.int pB), .val (.int pC), .val (.long jR), .second, .val (.int v5_1), .val (.int v6_2), .val (.int (8 : Int32)), .val (.long v8_12), .second, .val (.long (-1 : Int64)), .second, .val (.long v12_14), .second, .val (.ref b15), .unset] [(.int ((v5_1 * (10000 : Int32)) + v6_2))]))
    refine own_back ?_ (fun t k => XS.aload X32.here hx rfl (hb hby at_229) rfl rfl k)
    show own_Go p e below PO (T32.setTop (mkF m 231 #[.val (.int pA), .val (.int pB), .val (.int pC), .val (.long jR), .second, .val (.int v5_1), .val (.int v6_2), .val (.int (8 : Int32)), .val (.long v8_12), .second, .val (.long (-1 : Int64)), .second, .val (.long v12_14), .second, .val (.ref b15), .unset] [(.ref b15), (.int ((v5_1 * (10000 : Int32)) + v6_2))]))
    refine own_back ?_ (fun t k => XS.bipush X32.here hx rfl (hb hby at_231) k)
    show own_Go p e below PO (T32.setTop (mkF m 233 #[.val (.int pA), .val (.int pB), .val (.int pC), .val (.long jR), .second, .val (.int v5_1), .val (.int v6_2), .val (.int (8 : Int32)), .val (.long v8_12), .second, .val (.long (-1 : Int64)), .second, .val (.long v12_14), .second, .val (.ref b15), .unset] [(.int (8 : Int32)), (.ref b15), (.int ((v5_1 * (10000 : Int32)) + v6_2))]))
    refine own_back ?_ (fun t k => XS.iload X32.here hx rfl (hb hby at_233) rfl k)
    show own_Go p e below PO (T32.setTop (mkF m 235 #[.val (.int pA), .val (.int pB), .val (.int pC), .val (.long jR), .second, .val (.int v5_1), .val (.int v6_2), .val (.int (8 : Int32)), .val (.long v8_12), .second, .val (.long (-1 : Int64)), .second, .val (.long v12_14), .second, .val (.ref b15), .unset] [(.int (8 : Int32)), (.int (8 : Int32)), (.ref b15), (.int ((v5_1 * (10000 : Int32)) + v6_2))]))
    refine own_back ?_ (fun t k => XS.isub X32.here hx rfl (hb hby at_235) rfl k)
    show own_Go p e below PO (T32.setTop (mkF m 236 #[.val (.int pA), .val (.int pB), .val (.int pC), .val (.long jR), .second, .val (.int v5_1), .val (.int v6_2), .val (.int (8 : Int32)), .val (.long v8_12), .second, .val (.long (-1 : Int64)), .second, .val (.long v12_14), .second, .val (.ref b15), .unset] [(.int (0 : Int32)), (.ref b15), (.int ((v5_1 * (10000 : Int32)) + v6_2))]))
    refine own_back ?_ (own_ldI X32 hx hZ e32 V32 (j := (0 : Int32)) (v := (.int (1 : Int32))) ⟨by decide, by decide⟩ rfl (g := (mkF m 236 #[.val (.int pA), .val (.int pB), .val (.int pC), .val (.long jR), .second, .val (.int v5_1), .val (.int v6_2), .val (.int (8 : Int32)), .val (.long v8_12), .second, .val (.long (-1 : Int64)), .second, .val (.long v12_14), .second, .val (.ref b15), .unset] [(.int (0 : Int32)), (.ref b15), (.int ((v5_1 * (10000 : Int32)) + v6_2))])) rfl rfl (hb hby at_236))
    show own_Go p e below PO (T32.setTop (mkF m 237 #[.val (.int pA), .val (.int pB), .val (.int pC), .val (.long jR), .second, .val (.int v5_1), .val (.int v6_2), .val (.int (8 : Int32)), .val (.long v8_12), .second, .val (.long (-1 : Int64)), .second, .val (.long v12_14), .second, .val (.ref b15), .unset] [(.int (1 : Int32)), (.int ((v5_1 * (10000 : Int32)) + v6_2))]))
    refine own_back ?_ (fun t k => XS.idiv X32.here hx rfl (hb hby at_237) rfl (by decide) k)
    show own_Go p e below PO (T32.setTop (mkF m 238 #[.val (.int pA), .val (.int pB), .val (.int pC), .val (.long jR), .second, .val (.int v5_1), .val (.int v6_2), .val (.int (8 : Int32)), .val (.long v8_12), .second, .val (.long (-1 : Int64)), .second, .val (.long v12_14), .second, .val (.ref b15), .unset] [(.int (((v5_1 * (10000 : Int32)) + v6_2) / (1 : Int32)))]))
    refine own_back ?_ (fun t k => XS.istore X32.here hx rfl (hb hby at_238) rfl (l' := #[.val (.int pA), .val (.int pB), .val (.int pC), .val (.long jR), .second, .val (.int v5_1), .val (.int v6_2), .val (.int (8 : Int32)), .val (.long v8_12), .second, .val (.long (-1 : Int64)), .second, .val (.long v12_14), .second, .val (.ref b15), .val (.int (((v5_1 * (10000 : Int32)) + v6_2) / (1 : Int32)))]) rfl k)
    show own_Go p e below PO (T32.setTop (mkF m 240 #[.val (.int pA), .val (.int pB), .val (.int pC), .val (.long jR), .second, .val (.int v5_1), .val (.int v6_2), .val (.int (8 : Int32)), .val (.long v8_12), .second, .val (.long (-1 : Int64)), .second, .val (.long v12_14), .second, .val (.ref b15), .val (.int (((v5_1 * (10000 : Int32)) + v6_2) / (1 : Int32)))] []))
    refine own_gen (A := Int32) (((v5_1 * (10000 : Int32)) + v6_2) / (1 : Int32)) (fun v15_34 => own_Go p e below PO (T32.setTop (mkF m 240 #[.val (.int pA), .val (.int pB), .val (.int pC), .val (.long jR), .second, .val (.int v5_1), .val (.int v6_2), .val (.int (8 : Int32)), .val (.long v8_12), .second, .val (.long (-1 : Int64)), .second, .val (.long v12_14), .second, .val (.ref b15), .val (.int v15_34)] []))) ?_
    intro v15_34 h_v15_34
    show own_Go p e below PO (T32.setTop (mkF m 240 #[.val (.int pA), .val (.int pB), .val (.int pC), .val (.long jR), .second, .val (.int v5_1), .val (.int v6_2), .val (.int (8 : Int32)), .val (.long v8_12), .second, .val (.long (-1 : Int64)), .second, .val (.long v12_14), .second, .val (.ref b15), .val (.int v15_34)] []))
    refine own_back ?_ (fun t k => XS.lload X32.here hx rfl (hb hby at_240) rfl k)
    show own_Go p e below PO (T32.setTop (mkF m 242 #[.val (.int pA), .val (.int pB), .val (.int pC), .val (.long jR), .second, .val (.int v5_1), .val (.int v6_2), .val (.int (8 : Int32)), .val (.long v8_12), .second, .val (.long (-1 : Int64)), .second, .val (.long v12_14), .second, .val (.ref b15), .val (.int v15_34)] [(.long v12_14)]))
    refine own_back ?_ (fun t k => XS.iload X32.here hx rfl (hb hby at_242) rfl k)
    show own_Go p e below PO (T32.setTop (mkF m 244 #[.val (.int pA), .val (.int pB), .val (.int pC), .val (.long jR), .second, .val (.int v5_1), .val (.int v6_2), .val (.int (8 : Int32)), .val (.long v8_12), .second, .val (.long (-1 : Int64)), .second, .val (.long v12_14), .second, .val (.ref b15), .val (.int v15_34)] [(.int (8 : Int32)), (.long v12_14)]))
    obtain ⟨_, _, ⟨T35, L35, k35, n35⟩, -, X35, ⟨Lc35, hQ35, l35, y35, z35⟩, st35⟩ := Jvm.LawKit.callS X32 hx (y := (⟨"com/example/fillwire/fillwire/wire/Words", "decimal", "(JI)I"⟩ : MethodName)) hown (mvT hZ (hw _ (List.mem_of_getElem? (i := 11) rfl))) (mvT hZ (hw _ (List.mem_of_getElem? (i := 12) rfl))) (mvT hZ (hw _ (List.mem_of_getElem? (i := 13) rfl))) (mvT hZ (hw _ (List.mem_of_getElem? (i := 14) rfl))) (by decide) (backOf (W := 0) (rm2 l Z a0 hw [] v12_14 (8 : Int32)  h32 n0 Zh32 (own_sta_keep S_Z K32 all0)) hZ (hw _ (List.mem_of_getElem? (i := 14) rfl)) (hw _ (List.mem_of_getElem? (i := 13) rfl)) (by decide) (by decide)) (g := (mkF m 244 #[.val (.int pA), .val (.int pB), .val (.int pC), .val (.long jR), .second, .val (.int v5_1), .val (.int v6_2), .val (.int (8 : Int32)), .val (.long v8_12), .second, .val (.long (-1 : Int64)), .second, .val (.long v12_14), .second, .val (.ref b15), .val (.int v15_34)] [(.int (8 : Int32)), (.long v12_14)])) rfl (by rw [hml]; rfl) (argsL := [(.long v12_14), (.int (8 : Int32))]) (rest := []) (lenOf pd_1 rfl) rfl (by show 2 * 0 + _ ≤ _; exact Nat.le_of_eq rfl) (hb hby at_244) (fun _ _ => ⟨rfl, e32, (by decide : 1 + 0 ≤ _), (by decide : 9 + 0 ≤ _)⟩)
    dsimp only [Pt.U, Pt.locs, Pt.cells, Pt.slots] at X35 l35 y35 z35 st35 hQ35
    subst l35 y35 z35
    obtain ⟨rfl, N35q, e35⟩ := hQ35
    have N35 := Fr.app N32 N35q
    refine own_back ?_ st35
    show own_Go p e below PO (T35.setTop (mkF m 247 #[.val (.int pA), .val (.int pB), .val (.int pC), .val (.long jR), .second, .val (.int v5_1), .val (.int v6_2), .val (.int (8 : Int32)), .val (.long v8_12), .second, .val (.long (-1 : Int64)), .second, .val (.long v12_14), .second, .val (.ref b15), .val (.int v15_34)] [(.int (own_dec v12_14 (8 : Int32)))]))
    refine own_gen (A := Int32) (own_dec v12_14 (8 : Int32)) (fun r244_36 => own_Go p e below PO (T35.setTop (mkF m 247 #[.val (.int pA), .val (.int pB), .val (.int pC), .val (.long jR), .second, .val (.int v5_1), .val (.int v6_2), .val (.int (8 : Int32)), .val (.long v8_12), .second, .val (.long (-1 : Int64)), .second, .val (.long v12_14), .second, .val (.ref b15), .val (.int v15_34)] [(.int r244_36)]))) ?_
    intro r244_36 h_r244_36
    show own_Go p e below PO (T35.setTop (mkF m 247 #[.val (.int pA), .val (.int pB), .val (.int pC), .val (.long jR), .second, .val (.int v5_1), .val (.int v6_2), .val (.int (8 : Int32)), .val (.long v8_12), .second, .val (.long (-1 : Int64)), .second, .val (.long v12_14), .second, .val (.ref b15), .val (.int v15_34)] [(.int r244_36)]))
    refine own_back ?_ (fun t k => XS.iload X35.here hx rfl (hb hby at_247) rfl k)
    show own_Go p e below PO (T35.setTop (mkF m 249 #[.val (.int pA), .val (.int pB), .val (.int pC), .val (.long jR), .second, .val (.int v5_1), .val (.int v6_2), .val (.int (8 : Int32)), .val (.long v8_12), .second, .val (.long (-1 : Int64)), .second, .val (.long v12_14), .second, .val (.ref b15), .val (.int v15_34)] [(.int v15_34), (.int r244_36)]))
    have hd249_37 : r244_36 = v15_34 := by rw [h_r244_36, h_v15_34]; exact own_main_8 h_v5_1 h_v6_2 h_v8_12 h_v12_14
    refine own_back ?_ (fun t k => XS.icmpNo X35.here hx rfl (hb hby at_249) rfl (teq hd249_37).2 k)
    show own_Go p e below PO (T35.setTop (mkF m 252 #[.val (.int pA), .val (.int pB), .val (.int pC), .val (.long jR), .second, .val (.int v5_1), .val (.int v6_2), .val (.int (8 : Int32)), .val (.long v8_12), .second, .val (.long (-1 : Int64)), .second, .val (.long v12_14), .second, .val (.ref b15), .val (.int v15_34)] []))
    refine own_back ?_ (fun t k => XS.iconst X35.here hx rfl (hb hby at_252) k)
    show own_Go p e below PO (T35.setTop (mkF m 253 #[.val (.int pA), .val (.int pB), .val (.int pC), .val (.long jR), .second, .val (.int v5_1), .val (.int v6_2), .val (.int (8 : Int32)), .val (.long v8_12), .second, .val (.long (-1 : Int64)), .second, .val (.long v12_14), .second, .val (.ref b15), .val (.int v15_34)] [(.int (1 : Int32))]))
    refine own_back ?_ (fun t k => XS.goto X35.here hx rfl (pc0 := 253) (pc' := 257) rfl (hb hby at_253) (by decide) (by decide) k)
    show own_Go p e below PO (T35.setTop (mkF m 257 #[.val (.int pA), .val (.int pB), .val (.int pC), .val (.long jR), .second, .val (.int v5_1), .val (.int v6_2), .val (.int (8 : Int32)), .val (.long v8_12), .second, .val (.long (-1 : Int64)), .second, .val (.long v12_14), .second, .val (.ref b15), .val (.int v15_34)] [(.int (1 : Int32))]))
    refine own_retN X35 hx (t := .boolean) (rest := []) Bd.returns (by decide) (by simp) (hb hby at_257) e35 (Bd.notSynchronized) ?_ (by decide) (by decide)
    exact ⟨rfl, N35⟩
  refine own_back ?_ (fun t k => XS.icmpYes X11.here hx rfl (pc0 := 129) (pc' := 138) rfl (hb hby at_129) rfl (feq hc129_13).2 (by decide) (by decide) k)
  show own_Go p e below PO (T11.setTop (mkF m 138 #[.val (.int pA), .val (.int pB), .val (.int pC), .val (.long jR), .second, .val (.int v5_1), .val (.int v6_2), .val (.int v7_3), .val (.long v8_12), .second, .unset, .unset, .unset, .unset, .unset, .unset] []))
  refine own_back ?_ (fun t k => XS.lconst X11.here hx rfl (hb hby at_138) k)
  show own_Go p e below PO (T11.setTop (mkF m 139 #[.val (.int pA), .val (.int pB), .val (.int pC), .val (.long jR), .second, .val (.int v5_1), .val (.int v6_2), .val (.int v7_3), .val (.long v8_12), .second, .unset, .unset, .unset, .unset, .unset, .unset] [(.long (1 : Int64))]))
  refine own_back ?_ (fun t k => XS.bipush X11.here hx rfl (hb hby at_139) k)
  show own_Go p e below PO (T11.setTop (mkF m 141 #[.val (.int pA), .val (.int pB), .val (.int pC), .val (.long jR), .second, .val (.int v5_1), .val (.int v6_2), .val (.int v7_3), .val (.long v8_12), .second, .unset, .unset, .unset, .unset, .unset, .unset] [(.int (8 : Int32)), (.long (1 : Int64))]))
  refine own_back ?_ (fun t k => XS.iload X11.here hx rfl (hb hby at_141) rfl k)
  show own_Go p e below PO (T11.setTop (mkF m 143 #[.val (.int pA), .val (.int pB), .val (.int pC), .val (.long jR), .second, .val (.int v5_1), .val (.int v6_2), .val (.int v7_3), .val (.long v8_12), .second, .unset, .unset, .unset, .unset, .unset, .unset] [(.int v7_3), (.int (8 : Int32)), (.long (1 : Int64))]))
  refine own_back ?_ (fun t k => XS.imul X11.here hx rfl (hb hby at_143) rfl k)
  show own_Go p e below PO (T11.setTop (mkF m 144 #[.val (.int pA), .val (.int pB), .val (.int pC), .val (.long jR), .second, .val (.int v5_1), .val (.int v6_2), .val (.int v7_3), .val (.long v8_12), .second, .unset, .unset, .unset, .unset, .unset, .unset] [(.int ((8 : Int32) * v7_3)), (.long (1 : Int64))]))
  refine own_back ?_ (fun t k => XS.lshl X11.here hx rfl (hb hby at_144) rfl k)
  show own_Go p e below PO (T11.setTop (mkF m 145 #[.val (.int pA), .val (.int pB), .val (.int pC), .val (.long jR), .second, .val (.int v5_1), .val (.int v6_2), .val (.int v7_3), .val (.long v8_12), .second, .unset, .unset, .unset, .unset, .unset, .unset] [(.long ((1 : Int64) <<< (((8 : Int32) * v7_3) &&& 0x3f).toInt64))]))
  refine own_back ?_ (fun t k => XS.lconst X11.here hx rfl (hb hby at_145) k)
  show own_Go p e below PO (T11.setTop (mkF m 146 #[.val (.int pA), .val (.int pB), .val (.int pC), .val (.long jR), .second, .val (.int v5_1), .val (.int v6_2), .val (.int v7_3), .val (.long v8_12), .second, .unset, .unset, .unset, .unset, .unset, .unset] [(.long (1 : Int64)), (.long ((1 : Int64) <<< (((8 : Int32) * v7_3) &&& 0x3f).toInt64))]))
  refine own_back ?_ (fun t k => XS.lsub X11.here hx rfl (hb hby at_146) rfl k)
  show own_Go p e below PO (T11.setTop (mkF m 147 #[.val (.int pA), .val (.int pB), .val (.int pC), .val (.long jR), .second, .val (.int v5_1), .val (.int v6_2), .val (.int v7_3), .val (.long v8_12), .second, .unset, .unset, .unset, .unset, .unset, .unset] [(.long (((1 : Int64) <<< (((8 : Int32) * v7_3) &&& 0x3f).toInt64) - (1 : Int64)))]))
  refine own_back ?_ (fun t k => XS.lstore X11.here hx rfl (hb hby at_147) rfl (l' := #[.val (.int pA), .val (.int pB), .val (.int pC), .val (.long jR), .second, .val (.int v5_1), .val (.int v6_2), .val (.int v7_3), .val (.long v8_12), .second, .val (.long (((1 : Int64) <<< (((8 : Int32) * v7_3) &&& 0x3f).toInt64) - (1 : Int64))), .second, .unset, .unset, .unset, .unset]) rfl k)
  show own_Go p e below PO (T11.setTop (mkF m 149 #[.val (.int pA), .val (.int pB), .val (.int pC), .val (.long jR), .second, .val (.int v5_1), .val (.int v6_2), .val (.int v7_3), .val (.long v8_12), .second, .val (.long (((1 : Int64) <<< (((8 : Int32) * v7_3) &&& 0x3f).toInt64) - (1 : Int64))), .second, .unset, .unset, .unset, .unset] []))
  refine own_gen (A := Int64) (((1 : Int64) <<< (((8 : Int32) * v7_3) &&& 0x3f).toInt64) - (1 : Int64)) (fun v10_38 => own_Go p e below PO (T11.setTop (mkF m 149 #[.val (.int pA), .val (.int pB), .val (.int pC), .val (.long jR), .second, .val (.int v5_1), .val (.int v6_2), .val (.int v7_3), .val (.long v8_12), .second, .val (.long v10_38), .second, .unset, .unset, .unset, .unset] []))) ?_
  intro v10_38 h_v10_38
  show own_Go p e below PO (T11.setTop (mkF m 149 #[.val (.int pA), .val (.int pB), .val (.int pC), .val (.long jR), .second, .val (.int v5_1), .val (.int v6_2), .val (.int v7_3), .val (.long v8_12), .second, .val (.long v10_38), .second, .unset, .unset, .unset, .unset] []))
  refine own_back ?_ (fun t k => XS.lload X11.here hx rfl (hb hby at_149) rfl k)
  show own_Go p e below PO (T11.setTop (mkF m 151 #[.val (.int pA), .val (.int pB), .val (.int pC), .val (.long jR), .second, .val (.int v5_1), .val (.int v6_2), .val (.int v7_3), .val (.long v8_12), .second, .val (.long v10_38), .second, .unset, .unset, .unset, .unset] [(.long v8_12)]))
  refine own_back ?_ (fun t k => XS.lload X11.here hx rfl (hb hby at_151) rfl k)
  show own_Go p e below PO (T11.setTop (mkF m 153 #[.val (.int pA), .val (.int pB), .val (.int pC), .val (.long jR), .second, .val (.int v5_1), .val (.int v6_2), .val (.int v7_3), .val (.long v8_12), .second, .val (.long v10_38), .second, .unset, .unset, .unset, .unset] [(.long v10_38), (.long v8_12)]))
  refine own_back ?_ (fun t k => XS.land X11.here hx rfl (hb hby at_153) rfl k)
  show own_Go p e below PO (T11.setTop (mkF m 154 #[.val (.int pA), .val (.int pB), .val (.int pC), .val (.long jR), .second, .val (.int v5_1), .val (.int v6_2), .val (.int v7_3), .val (.long v8_12), .second, .val (.long v10_38), .second, .unset, .unset, .unset, .unset] [(.long (v8_12 &&& v10_38))]))
  refine own_back ?_ (fun t k => XS.lloadN X11.here hx rfl (hb hby at_154) rfl k)
  show own_Go p e below PO (T11.setTop (mkF m 155 #[.val (.int pA), .val (.int pB), .val (.int pC), .val (.long jR), .second, .val (.int v5_1), .val (.int v6_2), .val (.int v7_3), .val (.long v8_12), .second, .val (.long v10_38), .second, .unset, .unset, .unset, .unset] [(.long jR), (.long (v8_12 &&& v10_38))]))
  refine own_back ?_ (fun t k => XS.lload X11.here hx rfl (hb hby at_155) rfl k)
  show own_Go p e below PO (T11.setTop (mkF m 157 #[.val (.int pA), .val (.int pB), .val (.int pC), .val (.long jR), .second, .val (.int v5_1), .val (.int v6_2), .val (.int v7_3), .val (.long v8_12), .second, .val (.long v10_38), .second, .unset, .unset, .unset, .unset] [(.long v10_38), (.long jR), (.long (v8_12 &&& v10_38))]))
  refine own_back ?_ (fun t k => X11.ldc2Long hx hown (mvT hZ (hw _ (List.mem_of_getElem? (i := 5) rfl))) (g := (mkF m 157 #[.val (.int pA), .val (.int pB), .val (.int pC), .val (.long jR), .second, .val (.int v5_1), .val (.int v6_2), .val (.int v7_3), .val (.long v8_12), .second, .val (.long v10_38), .second, .unset, .unset, .unset, .unset] [(.long v10_38), (.long jR), (.long (v8_12 &&& v10_38))])) rfl (hb hby at_157) _ k)
  show own_Go p e below PO (T11.setTop (mkF m 160 #[.val (.int pA), .val (.int pB), .val (.int pC), .val (.long jR), .second, .val (.int v5_1), .val (.int v6_2), .val (.int v7_3), .val (.long v8_12), .second, .val (.long v10_38), .second, .unset, .unset, .unset, .unset] [(.long (-1 : Int64)), (.long v10_38), (.long jR), (.long (v8_12 &&& v10_38))]))
  refine own_back ?_ (fun t k => XS.lxor X11.here hx rfl (hb hby at_160) rfl k)
  show own_Go p e below PO (T11.setTop (mkF m 161 #[.val (.int pA), .val (.int pB), .val (.int pC), .val (.long jR), .second, .val (.int v5_1), .val (.int v6_2), .val (.int v7_3), .val (.long v8_12), .second, .val (.long v10_38), .second, .unset, .unset, .unset, .unset] [(.long (v10_38 ^^^ (-1 : Int64))), (.long jR), (.long (v8_12 &&& v10_38))]))
  refine own_back ?_ (fun t k => XS.land X11.here hx rfl (hb hby at_161) rfl k)
  show own_Go p e below PO (T11.setTop (mkF m 162 #[.val (.int pA), .val (.int pB), .val (.int pC), .val (.long jR), .second, .val (.int v5_1), .val (.int v6_2), .val (.int v7_3), .val (.long v8_12), .second, .val (.long v10_38), .second, .unset, .unset, .unset, .unset] [(.long (jR &&& (v10_38 ^^^ (-1 : Int64)))), (.long (v8_12 &&& v10_38))]))
  refine own_back ?_ (fun t k => XS.lor X11.here hx rfl (hb hby at_162) rfl k)
  show own_Go p e below PO (T11.setTop (mkF m 163 #[.val (.int pA), .val (.int pB), .val (.int pC), .val (.long jR), .second, .val (.int v5_1), .val (.int v6_2), .val (.int v7_3), .val (.long v8_12), .second, .val (.long v10_38), .second, .unset, .unset, .unset, .unset] [(.long ((v8_12 &&& v10_38) ||| (jR &&& (v10_38 ^^^ (-1 : Int64)))))]))
  refine own_back ?_ (fun t k => XS.lstore X11.here hx rfl (hb hby at_163) rfl (l' := #[.val (.int pA), .val (.int pB), .val (.int pC), .val (.long jR), .second, .val (.int v5_1), .val (.int v6_2), .val (.int v7_3), .val (.long v8_12), .second, .val (.long v10_38), .second, .val (.long ((v8_12 &&& v10_38) ||| (jR &&& (v10_38 ^^^ (-1 : Int64))))), .second, .unset, .unset]) rfl k)
  show own_Go p e below PO (T11.setTop (mkF m 165 #[.val (.int pA), .val (.int pB), .val (.int pC), .val (.long jR), .second, .val (.int v5_1), .val (.int v6_2), .val (.int v7_3), .val (.long v8_12), .second, .val (.long v10_38), .second, .val (.long ((v8_12 &&& v10_38) ||| (jR &&& (v10_38 ^^^ (-1 : Int64))))), .second, .unset, .unset] []))
  refine own_gen (A := Int64) ((v8_12 &&& v10_38) ||| (jR &&& (v10_38 ^^^ (-1 : Int64)))) (fun v12_39 => own_Go p e below PO (T11.setTop (mkF m 165 #[.val (.int pA), .val (.int pB), .val (.int pC), .val (.long jR), .second, .val (.int v5_1), .val (.int v6_2), .val (.int v7_3), .val (.long v8_12), .second, .val (.long v10_38), .second, .val (.long v12_39), .second, .unset, .unset] []))) ?_
  intro v12_39 h_v12_39
  show own_Go p e below PO (T11.setTop (mkF m 165 #[.val (.int pA), .val (.int pB), .val (.int pC), .val (.long jR), .second, .val (.int v5_1), .val (.int v6_2), .val (.int v7_3), .val (.long v8_12), .second, .val (.long v10_38), .second, .val (.long v12_39), .second, .unset, .unset] []))
  refine own_back ?_ (fun t k => XS.bipush X11.here hx rfl (hb hby at_165) k)
  show own_Go p e below PO (T11.setTop (mkF m 167 #[.val (.int pA), .val (.int pB), .val (.int pC), .val (.long jR), .second, .val (.int v5_1), .val (.int v6_2), .val (.int v7_3), .val (.long v8_12), .second, .val (.long v10_38), .second, .val (.long v12_39), .second, .unset, .unset] [(.int (9 : Int32))]))
  obtain ⟨T40, h40, k40, X40, e40, E40, A40, Ex40, st40⟩ := newPE X11 hx hZ (hw _ (List.mem_of_getElem? (i := 6) rfl)) e11 (g := (mkF m 167 #[.val (.int pA), .val (.int pB), .val (.int pC), .val (.long jR), .second, .val (.int v5_1), .val (.int v6_2), .val (.int v7_3), .val (.long v8_12), .second, .val (.long v10_38), .second, .val (.long v12_39), .second, .unset, .unset] [(.int (9 : Int32))])) rfl (hb hby at_167) rfl (by decide) (cap := 9) (by decide) (by decide) (by decide) (by decide) (ad := "[I") (by decide)
  obtain ⟨b40, g40⟩ : ∃ z, z = h0.size := ⟨_, rfl⟩
  rw [← g40] at A40 Ex40 st40
  have sz_b40 : h0.size ≤ b40 := Nat.le_of_eq g40.symm
  have gn_b40 : n0 ≤ b40 := Nat.le_trans Z0 sz_b40
  have K40 : Keep h0 h40 [] := (Keep.refl h0 []).ext E40
  have Zh40 : n0 ≤ h40.size := Nat.le_trans Z0 K40.1
  have V40 : Arv Z h40 b40 k40 .int (9 : Int32) [(.int (0 : Int32)), (.int (0 : Int32)), (.int (0 : Int32)), (.int (0 : Int32)), (.int (0 : Int32)), (.int (0 : Int32)), (.int (0 : Int32)), (.int (0 : Int32)), (.int (0 : Int32))] (.int (0 : Int32)) := (Arv.new A40 (by decide)).pad (pad_rep [] (.int (0 : Int32)) 9)
  refine own_back ?_ st40
  show own_Go p e below PO (T40.setTop (mkF m 169 #[.val (.int pA), .val (.int pB), .val (.int pC), .val (.long jR), .second, .val (.int v5_1), .val (.int v6_2), .val (.int v7_3), .val (.long v8_12), .second, .val (.long v10_38), .second, .val (.long v12_39), .second, .unset, .unset] [(.ref b40)]))
  refine own_back ?_ (fun t k => XS.dup X40.here hx rfl (hb hby at_169) rfl rfl k)
  show own_Go p e below PO (T40.setTop (mkF m 170 #[.val (.int pA), .val (.int pB), .val (.int pC), .val (.long jR), .second, .val (.int v5_1), .val (.int v6_2), .val (.int v7_3), .val (.long v8_12), .second, .val (.long v10_38), .second, .val (.long v12_39), .second, .unset, .unset] [(.ref b40), (.ref b40)]))
  refine own_back ?_ (fun t k => XS.iconst X40.here hx rfl (hb hby at_170) k)
  show own_Go p e below PO (T40.setTop (mkF m 171 #[.val (.int pA), .val (.int pB), .val (.int pC), .val (.long jR), .second, .val (.int v5_1), .val (.int v6_2), .val (.int v7_3), .val (.long v8_12), .second, .val (.long v10_38), .second, .val (.long v12_39), .second, .unset, .unset] [(.int (0 : Int32)), (.ref b40), (.ref b40)]))
  refine own_back ?_ (fun t k => XS.iconst X40.here hx rfl (hb hby at_171) k)
  show own_Go p e below PO (T40.setTop (mkF m 172 #[.val (.int pA), .val (.int pB), .val (.int pC), .val (.long jR), .second, .val (.int v5_1), .val (.int v6_2), .val (.int v7_3), .val (.long v8_12), .second, .val (.long v10_38), .second, .val (.long v12_39), .second, .unset, .unset] [(.int (1 : Int32)), (.int (0 : Int32)), (.ref b40), (.ref b40)]))
  obtain ⟨T41, h41, X41, e41, W41, V41, st41⟩ := own_stI X40 hx hZ e40 V40 (j := (0 : Int32)) ⟨by decide, by decide⟩ (i := 0) rfl (by decide) (g := (mkF m 172 #[.val (.int pA), .val (.int pB), .val (.int pC), .val (.long jR), .second, .val (.int v5_1), .val (.int v6_2), .val (.int v7_3), .val (.long v8_12), .second, .val (.long v10_38), .second, .val (.long v12_39), .second, .unset, .unset] [(.int (1 : Int32)), (.int (0 : Int32)), (.ref b40), (.ref b40)])) rfl rfl (hb hby at_172)
  replace V41 : Arv Z h41 b40 k40 .int (9 : Int32) [(.int (1 : Int32)), (.int (0 : Int32)), (.int (0 : Int32)), (.int (0 : Int32)), (.int (0 : Int32)), (.int (0 : Int32)), (.int (0 : Int32)), (.int (0 : Int32)), (.int (0 : Int32))] (.int (0 : Int32)) := V41
  have f41_42 := Ex40.wr W41
  have K41 : Keep h0 h41 [] := (K40).wr W41 (Or.inr sz_b40)
  have N41 := Fr.snoc X41 N11 gn_b40
  have Zh41 : n0 ≤ h41.size := Nat.le_trans Z0 K41.1
  refine own_back ?_ st41
  show own_Go p e below PO (T41.setTop (mkF m 173 #[.val (.int pA), .val (.int pB), .val (.int pC), .val (.long jR), .second, .val (.int v5_1), .val (.int v6_2), .val (.int v7_3), .val (.long v8_12), .second, .val (.long v10_38), .second, .val (.long v12_39), .second, .unset, .unset] [(.ref b40)]))
  refine own_back ?_ (fun t k => XS.dup X41.here hx rfl (hb hby at_173) rfl rfl k)
  show own_Go p e below PO (T41.setTop (mkF m 174 #[.val (.int pA), .val (.int pB), .val (.int pC), .val (.long jR), .second, .val (.int v5_1), .val (.int v6_2), .val (.int v7_3), .val (.long v8_12), .second, .val (.long v10_38), .second, .val (.long v12_39), .second, .unset, .unset] [(.ref b40), (.ref b40)]))
  refine own_back ?_ (fun t k => XS.iconst X41.here hx rfl (hb hby at_174) k)
  show own_Go p e below PO (T41.setTop (mkF m 175 #[.val (.int pA), .val (.int pB), .val (.int pC), .val (.long jR), .second, .val (.int v5_1), .val (.int v6_2), .val (.int v7_3), .val (.long v8_12), .second, .val (.long v10_38), .second, .val (.long v12_39), .second, .unset, .unset] [(.int (1 : Int32)), (.ref b40), (.ref b40)]))
  refine own_back ?_ (fun t k => XS.bipush X41.here hx rfl (hb hby at_175) k)
  show own_Go p e below PO (T41.setTop (mkF m 177 #[.val (.int pA), .val (.int pB), .val (.int pC), .val (.long jR), .second, .val (.int v5_1), .val (.int v6_2), .val (.int v7_3), .val (.long v8_12), .second, .val (.long v10_38), .second, .val (.long v12_39), .second, .unset, .unset] [(.int (10 : Int32)), (.int (1 : Int32)), (.ref b40), (.ref b40)]))
  obtain ⟨T43, h43, X43, e43, W43, V43, st43⟩ := own_stI X41 hx hZ e41 V41 (j := (1 : Int32)) ⟨by decide, by decide⟩ (i := 1) rfl (by decide) (g := (mkF m 177 #[.val (.int pA), .val (.int pB), .val (.int pC), .val (.long jR), .second, .val (.int v5_1), .val (.int v6_2), .val (.int v7_3), .val (.long v8_12), .second, .val (.long v10_38), .second, .val (.long v12_39), .second, .unset, .unset] [(.int (10 : Int32)), (.int (1 : Int32)), (.ref b40), (.ref b40)])) rfl rfl (hb hby at_177)
  replace V43 : Arv Z h43 b40 k40 .int (9 : Int32) [(.int (1 : Int32)), (.int (10 : Int32)), (.int (0 : Int32)), (.int (0 : Int32)), (.int (0 : Int32)), (.int (0 : Int32)), (.int (0 : Int32)), (.int (0 : Int32)), (.int (0 : Int32))] (.int (0 : Int32)) := V43
  have f43_44 := f41_42.wr W43
  have K43 : Keep h0 h43 [] := (K41).wr W43 (Or.inr sz_b40)
  have N43 := Fr.snoc X43 N41 gn_b40
  have Zh43 : n0 ≤ h43.size := Nat.le_trans Z0 K43.1
  refine own_back ?_ st43
  show own_Go p e below PO (T43.setTop (mkF m 178 #[.val (.int pA), .val (.int pB), .val (.int pC), .val (.long jR), .second, .val (.int v5_1), .val (.int v6_2), .val (.int v7_3), .val (.long v8_12), .second, .val (.long v10_38), .second, .val (.long v12_39), .second, .unset, .unset] [(.ref b40)]))
  refine own_back ?_ (fun t k => XS.dup X43.here hx rfl (hb hby at_178) rfl rfl k)
  show own_Go p e below PO (T43.setTop (mkF m 179 #[.val (.int pA), .val (.int pB), .val (.int pC), .val (.long jR), .second, .val (.int v5_1), .val (.int v6_2), .val (.int v7_3), .val (.long v8_12), .second, .val (.long v10_38), .second, .val (.long v12_39), .second, .unset, .unset] [(.ref b40), (.ref b40)]))
  refine own_back ?_ (fun t k => XS.iconst X43.here hx rfl (hb hby at_179) k)
  show own_Go p e below PO (T43.setTop (mkF m 180 #[.val (.int pA), .val (.int pB), .val (.int pC), .val (.long jR), .second, .val (.int v5_1), .val (.int v6_2), .val (.int v7_3), .val (.long v8_12), .second, .val (.long v10_38), .second, .val (.long v12_39), .second, .unset, .unset] [(.int (2 : Int32)), (.ref b40), (.ref b40)]))
  refine own_back ?_ (fun t k => XS.bipush X43.here hx rfl (hb hby at_180) k)
  show own_Go p e below PO (T43.setTop (mkF m 182 #[.val (.int pA), .val (.int pB), .val (.int pC), .val (.long jR), .second, .val (.int v5_1), .val (.int v6_2), .val (.int v7_3), .val (.long v8_12), .second, .val (.long v10_38), .second, .val (.long v12_39), .second, .unset, .unset] [(.int (100 : Int32)), (.int (2 : Int32)), (.ref b40), (.ref b40)]))
  obtain ⟨T45, h45, X45, e45, W45, V45, st45⟩ := own_stI X43 hx hZ e43 V43 (j := (2 : Int32)) ⟨by decide, by decide⟩ (i := 2) rfl (by decide) (g := (mkF m 182 #[.val (.int pA), .val (.int pB), .val (.int pC), .val (.long jR), .second, .val (.int v5_1), .val (.int v6_2), .val (.int v7_3), .val (.long v8_12), .second, .val (.long v10_38), .second, .val (.long v12_39), .second, .unset, .unset] [(.int (100 : Int32)), (.int (2 : Int32)), (.ref b40), (.ref b40)])) rfl rfl (hb hby at_182)
  replace V45 : Arv Z h45 b40 k40 .int (9 : Int32) [(.int (1 : Int32)), (.int (10 : Int32)), (.int (100 : Int32)), (.int (0 : Int32)), (.int (0 : Int32)), (.int (0 : Int32)), (.int (0 : Int32)), (.int (0 : Int32)), (.int (0 : Int32))] (.int (0 : Int32)) := V45
  have f45_46 := f43_44.wr W45
  have K45 : Keep h0 h45 [] := (K43).wr W45 (Or.inr sz_b40)
  have N45 := Fr.snoc X45 N43 gn_b40
  have Zh45 : n0 ≤ h45.size := Nat.le_trans Z0 K45.1
  refine own_back ?_ st45
  show own_Go p e below PO (T45.setTop (mkF m 183 #[.val (.int pA), .val (.int pB), .val (.int pC), .val (.long jR), .second, .val (.int v5_1), .val (.int v6_2), .val (.int v7_3), .val (.long v8_12), .second, .val (.long v10_38), .second, .val (.long v12_39), .second, .unset, .unset] [(.ref b40)]))
  refine own_back ?_ (fun t k => XS.dup X45.here hx rfl (hb hby at_183) rfl rfl k)
  show own_Go p e below PO (T45.setTop (mkF m 184 #[.val (.int pA), .val (.int pB), .val (.int pC), .val (.long jR), .second, .val (.int v5_1), .val (.int v6_2), .val (.int v7_3), .val (.long v8_12), .second, .val (.long v10_38), .second, .val (.long v12_39), .second, .unset, .unset] [(.ref b40), (.ref b40)]))
  refine own_back ?_ (fun t k => XS.iconst X45.here hx rfl (hb hby at_184) k)
  show own_Go p e below PO (T45.setTop (mkF m 185 #[.val (.int pA), .val (.int pB), .val (.int pC), .val (.long jR), .second, .val (.int v5_1), .val (.int v6_2), .val (.int v7_3), .val (.long v8_12), .second, .val (.long v10_38), .second, .val (.long v12_39), .second, .unset, .unset] [(.int (3 : Int32)), (.ref b40), (.ref b40)]))
  refine own_back ?_ (fun t k => XS.sipush X45.here hx rfl (hb hby at_185) k)
  show own_Go p e below PO (T45.setTop (mkF m 188 #[.val (.int pA), .val (.int pB), .val (.int pC), .val (.long jR), .second, .val (.int v5_1), .val (.int v6_2), .val (.int v7_3), .val (.long v8_12), .second, .val (.long v10_38), .second, .val (.long v12_39), .second, .unset, .unset] [(.int (1000 : Int32)), (.int (3 : Int32)), (.ref b40), (.ref b40)]))
  obtain ⟨T47, h47, X47, e47, W47, V47, st47⟩ := own_stI X45 hx hZ e45 V45 (j := (3 : Int32)) ⟨by decide, by decide⟩ (i := 3) rfl (by decide) (g := (mkF m 188 #[.val (.int pA), .val (.int pB), .val (.int pC), .val (.long jR), .second, .val (.int v5_1), .val (.int v6_2), .val (.int v7_3), .val (.long v8_12), .second, .val (.long v10_38), .second, .val (.long v12_39), .second, .unset, .unset] [(.int (1000 : Int32)), (.int (3 : Int32)), (.ref b40), (.ref b40)])) rfl rfl (hb hby at_188)
  replace V47 : Arv Z h47 b40 k40 .int (9 : Int32) [(.int (1 : Int32)), (.int (10 : Int32)), (.int (100 : Int32)), (.int (1000 : Int32)), (.int (0 : Int32)), (.int (0 : Int32)), (.int (0 : Int32)), (.int (0 : Int32)), (.int (0 : Int32))] (.int (0 : Int32)) := V47
  have f47_48 := f45_46.wr W47
  have K47 : Keep h0 h47 [] := (K45).wr W47 (Or.inr sz_b40)
  have N47 := Fr.snoc X47 N45 gn_b40
  have Zh47 : n0 ≤ h47.size := Nat.le_trans Z0 K47.1
  refine own_back ?_ st47
  show own_Go p e below PO (T47.setTop (mkF m 189 #[.val (.int pA), .val (.int pB), .val (.int pC), .val (.long jR), .second, .val (.int v5_1), .val (.int v6_2), .val (.int v7_3), .val (.long v8_12), .second, .val (.long v10_38), .second, .val (.long v12_39), .second, .unset, .unset] [(.ref b40)]))
  refine own_back ?_ (fun t k => XS.dup X47.here hx rfl (hb hby at_189) rfl rfl k)
  show own_Go p e below PO (T47.setTop (mkF m 190 #[.val (.int pA), .val (.int pB), .val (.int pC), .val (.long jR), .second, .val (.int v5_1), .val (.int v6_2), .val (.int v7_3), .val (.long v8_12), .second, .val (.long v10_38), .second, .val (.long v12_39), .second, .unset, .unset] [(.ref b40), (.ref b40)]))
  refine own_back ?_ (fun t k => XS.iconst X47.here hx rfl (hb hby at_190) k)
  show own_Go p e below PO (T47.setTop (mkF m 191 #[.val (.int pA), .val (.int pB), .val (.int pC), .val (.long jR), .second, .val (.int v5_1), .val (.int v6_2), .val (.int v7_3), .val (.long v8_12), .second, .val (.long v10_38), .second, .val (.long v12_39), .second, .unset, .unset] [(.int (4 : Int32)), (.ref b40), (.ref b40)]))
  refine own_back ?_ (fun t k => XS.sipush X47.here hx rfl (hb hby at_191) k)
  show own_Go p e below PO (T47.setTop (mkF m 194 #[.val (.int pA), .val (.int pB), .val (.int pC), .val (.long jR), .second, .val (.int v5_1), .val (.int v6_2), .val (.int v7_3), .val (.long v8_12), .second, .val (.long v10_38), .second, .val (.long v12_39), .second, .unset, .unset] [(.int (10000 : Int32)), (.int (4 : Int32)), (.ref b40), (.ref b40)]))
  obtain ⟨T49, h49, X49, e49, W49, V49, st49⟩ := own_stI X47 hx hZ e47 V47 (j := (4 : Int32)) ⟨by decide, by decide⟩ (i := 4) rfl (by decide) (g := (mkF m 194 #[.val (.int pA), .val (.int pB), .val (.int pC), .val (.long jR), .second, .val (.int v5_1), .val (.int v6_2), .val (.int v7_3), .val (.long v8_12), .second, .val (.long v10_38), .second, .val (.long v12_39), .second, .unset, .unset] [(.int (10000 : Int32)), (.int (4 : Int32)), (.ref b40), (.ref b40)])) rfl rfl (hb hby at_194)
  replace V49 : Arv Z h49 b40 k40 .int (9 : Int32) [(.int (1 : Int32)), (.int (10 : Int32)), (.int (100 : Int32)), (.int (1000 : Int32)), (.int (10000 : Int32)), (.int (0 : Int32)), (.int (0 : Int32)), (.int (0 : Int32)), (.int (0 : Int32))] (.int (0 : Int32)) := V49
  have f49_50 := f47_48.wr W49
  have K49 : Keep h0 h49 [] := (K47).wr W49 (Or.inr sz_b40)
  have N49 := Fr.snoc X49 N47 gn_b40
  have Zh49 : n0 ≤ h49.size := Nat.le_trans Z0 K49.1
  refine own_back ?_ st49
  show own_Go p e below PO (T49.setTop (mkF m 195 #[.val (.int pA), .val (.int pB), .val (.int pC), .val (.long jR), .second, .val (.int v5_1), .val (.int v6_2), .val (.int v7_3), .val (.long v8_12), .second, .val (.long v10_38), .second, .val (.long v12_39), .second, .unset, .unset] [(.ref b40)]))
  refine own_back ?_ (fun t k => XS.dup X49.here hx rfl (hb hby at_195) rfl rfl k)
  show own_Go p e below PO (T49.setTop (mkF m 196 #[.val (.int pA), .val (.int pB), .val (.int pC), .val (.long jR), .second, .val (.int v5_1), .val (.int v6_2), .val (.int v7_3), .val (.long v8_12), .second, .val (.long v10_38), .second, .val (.long v12_39), .second, .unset, .unset] [(.ref b40), (.ref b40)]))
  refine own_back ?_ (fun t k => XS.iconst X49.here hx rfl (hb hby at_196) k)
  show own_Go p e below PO (T49.setTop (mkF m 197 #[.val (.int pA), .val (.int pB), .val (.int pC), .val (.long jR), .second, .val (.int v5_1), .val (.int v6_2), .val (.int v7_3), .val (.long v8_12), .second, .val (.long v10_38), .second, .val (.long v12_39), .second, .unset, .unset] [(.int (5 : Int32)), (.ref b40), (.ref b40)]))
  refine own_back ?_ (fun t k => X49.ldcInt hx hown (mvT hZ (hw _ (List.mem_of_getElem? (i := 7) rfl))) (g := (mkF m 197 #[.val (.int pA), .val (.int pB), .val (.int pC), .val (.long jR), .second, .val (.int v5_1), .val (.int v6_2), .val (.int v7_3), .val (.long v8_12), .second, .val (.long v10_38), .second, .val (.long v12_39), .second, .unset, .unset] [(.int (5 : Int32)), (.ref b40), (.ref b40)])) rfl (hb hby at_197) _ k)
  show own_Go p e below PO (T49.setTop (mkF m 199 #[.val (.int pA), .val (.int pB), .val (.int pC), .val (.long jR), .second, .val (.int v5_1), .val (.int v6_2), .val (.int v7_3), .val (.long v8_12), .second, .val (.long v10_38), .second, .val (.long v12_39), .second, .unset, .unset] [(.int (100000 : Int32)), (.int (5 : Int32)), (.ref b40), (.ref b40)]))
  obtain ⟨T51, h51, X51, e51, W51, V51, st51⟩ := own_stI X49 hx hZ e49 V49 (j := (5 : Int32)) ⟨by decide, by decide⟩ (i := 5) rfl (by decide) (g := (mkF m 199 #[.val (.int pA), .val (.int pB), .val (.int pC), .val (.long jR), .second, .val (.int v5_1), .val (.int v6_2), .val (.int v7_3), .val (.long v8_12), .second, .val (.long v10_38), .second, .val (.long v12_39), .second, .unset, .unset] [(.int (100000 : Int32)), (.int (5 : Int32)), (.ref b40), (.ref b40)])) rfl rfl (hb hby at_199)
  replace V51 : Arv Z h51 b40 k40 .int (9 : Int32) [(.int (1 : Int32)), (.int (10 : Int32)), (.int (100 : Int32)), (.int (1000 : Int32)), (.int (10000 : Int32)), (.int (100000 : Int32)), (.int (0 : Int32)), (.int (0 : Int32)), (.int (0 : Int32))] (.int (0 : Int32)) := V51
  have f51_52 := f49_50.wr W51
  have K51 : Keep h0 h51 [] := (K49).wr W51 (Or.inr sz_b40)
  have N51 := Fr.snoc X51 N49 gn_b40
  have Zh51 : n0 ≤ h51.size := Nat.le_trans Z0 K51.1
  refine own_back ?_ st51
  show own_Go p e below PO (T51.setTop (mkF m 200 #[.val (.int pA), .val (.int pB), .val (.int pC), .val (.long jR), .second, .val (.int v5_1), .val (.int v6_2), .val (.int v7_3), .val (.long v8_12), .second, .val (.long v10_38), .second, .val (.long v12_39), .second, .unset, .unset] [(.ref b40)]))
  refine own_back ?_ (fun t k => XS.dup X51.here hx rfl (hb hby at_200) rfl rfl k)
  show own_Go p e below PO (T51.setTop (mkF m 201 #[.val (.int pA), .val (.int pB), .val (.int pC), .val (.long jR), .second, .val (.int v5_1), .val (.int v6_2), .val (.int v7_3), .val (.long v8_12), .second, .val (.long v10_38), .second, .val (.long v12_39), .second, .unset, .unset] [(.ref b40), (.ref b40)]))
  refine own_back ?_ (fun t k => XS.bipush X51.here hx rfl (hb hby at_201) k)
  show own_Go p e below PO (T51.setTop (mkF m 203 #[.val (.int pA), .val (.int pB), .val (.int pC), .val (.long jR), .second, .val (.int v5_1), .val (.int v6_2), .val (.int v7_3), .val (.long v8_12), .second, .val (.long v10_38), .second, .val (.long v12_39), .second, .unset, .unset] [(.int (6 : Int32)), (.ref b40), (.ref b40)]))
  refine own_back ?_ (fun t k => X51.ldcInt hx hown (mvT hZ (hw _ (List.mem_of_getElem? (i := 8) rfl))) (g := (mkF m 203 #[.val (.int pA), .val (.int pB), .val (.int pC), .val (.long jR), .second, .val (.int v5_1), .val (.int v6_2), .val (.int v7_3), .val (.long v8_12), .second, .val (.long v10_38), .second, .val (.long v12_39), .second, .unset, .unset] [(.int (6 : Int32)), (.ref b40), (.ref b40)])) rfl (hb hby at_203) _ k)
  show own_Go p e below PO (T51.setTop (mkF m 205 #[.val (.int pA), .val (.int pB), .val (.int pC), .val (.long jR), .second, .val (.int v5_1), .val (.int v6_2), .val (.int v7_3), .val (.long v8_12), .second, .val (.long v10_38), .second, .val (.long v12_39), .second, .unset, .unset] [(.int (1000000 : Int32)), (.int (6 : Int32)), (.ref b40), (.ref b40)]))
  obtain ⟨T53, h53, X53, e53, W53, V53, st53⟩ := own_stI X51 hx hZ e51 V51 (j := (6 : Int32)) ⟨by decide, by decide⟩ (i := 6) rfl (by decide) (g := (mkF m 205 #[.val (.int pA), .val (.int pB), .val (.int pC), .val (.long jR), .second, .val (.int v5_1), .val (.int v6_2), .val (.int v7_3), .val (.long v8_12), .second, .val (.long v10_38), .second, .val (.long v12_39), .second, .unset, .unset] [(.int (1000000 : Int32)), (.int (6 : Int32)), (.ref b40), (.ref b40)])) rfl rfl (hb hby at_205)
  replace V53 : Arv Z h53 b40 k40 .int (9 : Int32) [(.int (1 : Int32)), (.int (10 : Int32)), (.int (100 : Int32)), (.int (1000 : Int32)), (.int (10000 : Int32)), (.int (100000 : Int32)), (.int (1000000 : Int32)), (.int (0 : Int32)), (.int (0 : Int32))] (.int (0 : Int32)) := V53
  have f53_54 := f51_52.wr W53
  have K53 : Keep h0 h53 [] := (K51).wr W53 (Or.inr sz_b40)
  have N53 := Fr.snoc X53 N51 gn_b40
  have Zh53 : n0 ≤ h53.size := Nat.le_trans Z0 K53.1
  refine own_back ?_ st53
  show own_Go p e below PO (T53.setTop (mkF m 206 #[.val (.int pA), .val (.int pB), .val (.int pC), .val (.long jR), .second, .val (.int v5_1), .val (.int v6_2), .val (.int v7_3), .val (.long v8_12), .second, .val (.long v10_38), .second, .val (.long v12_39), .second, .unset, .unset] [(.ref b40)]))
  refine own_back ?_ (fun t k => XS.dup X53.here hx rfl (hb hby at_206) rfl rfl k)
  show own_Go p e below PO (T53.setTop (mkF m 207 #[.val (.int pA), .val (.int pB), .val (.int pC), .val (.long jR), .second, .val (.int v5_1), .val (.int v6_2), .val (.int v7_3), .val (.long v8_12), .second, .val (.long v10_38), .second, .val (.long v12_39), .second, .unset, .unset] [(.ref b40), (.ref b40)]))
  refine own_back ?_ (fun t k => XS.bipush X53.here hx rfl (hb hby at_207) k)
  show own_Go p e below PO (T53.setTop (mkF m 209 #[.val (.int pA), .val (.int pB), .val (.int pC), .val (.long jR), .second, .val (.int v5_1), .val (.int v6_2), .val (.int v7_3), .val (.long v8_12), .second, .val (.long v10_38), .second, .val (.long v12_39), .second, .unset, .unset] [(.int (7 : Int32)), (.ref b40), (.ref b40)]))
  refine own_back ?_ (fun t k => X53.ldcInt hx hown (mvT hZ (hw _ (List.mem_of_getElem? (i := 9) rfl))) (g := (mkF m 209 #[.val (.int pA), .val (.int pB), .val (.int pC), .val (.long jR), .second, .val (.int v5_1), .val (.int v6_2), .val (.int v7_3), .val (.long v8_12), .second, .val (.long v10_38), .second, .val (.long v12_39), .second, .unset, .unset] [(.int (7 : Int32)), (.ref b40), (.ref b40)])) rfl (hb hby at_209) _ k)
  show own_Go p e below PO (T53.setTop (mkF m 211 #[.val (.int pA), .val (.int pB), .val (.int pC), .val (.long jR), .second, .val (.int v5_1), .val (.int v6_2), .val (.int v7_3), .val (.long v8_12), .second, .val (.long v10_38), .second, .val (.long v12_39), .second, .unset, .unset] [(.int (10000000 : Int32)), (.int (7 : Int32)), (.ref b40), (.ref b40)]))
  obtain ⟨T55, h55, X55, e55, W55, V55, st55⟩ := own_stI X53 hx hZ e53 V53 (j := (7 : Int32)) ⟨by decide, by decide⟩ (i := 7) rfl (by decide) (g := (mkF m 211 #[.val (.int pA), .val (.int pB), .val (.int pC), .val (.long jR), .second, .val (.int v5_1), .val (.int v6_2), .val (.int v7_3), .val (.long v8_12), .second, .val (.long v10_38), .second, .val (.long v12_39), .second, .unset, .unset] [(.int (10000000 : Int32)), (.int (7 : Int32)), (.ref b40), (.ref b40)])) rfl rfl (hb hby at_211)
  replace V55 : Arv Z h55 b40 k40 .int (9 : Int32) [(.int (1 : Int32)), (.int (10 : Int32)), (.int (100 : Int32)), (.int (1000 : Int32)), (.int (10000 : Int32)), (.int (100000 : Int32)), (.int (1000000 : Int32)), (.int (10000000 : Int32)), (.int (0 : Int32))] (.int (0 : Int32)) := V55
  have f55_56 := f53_54.wr W55
  have K55 : Keep h0 h55 [] := (K53).wr W55 (Or.inr sz_b40)
  have N55 := Fr.snoc X55 N53 gn_b40
  have Zh55 : n0 ≤ h55.size := Nat.le_trans Z0 K55.1
  refine own_back ?_ st55
  show own_Go p e below PO (T55.setTop (mkF m 212 #[.val (.int pA), .val (.int pB), .val (.int pC), .val (.long jR), .second, .val (.int v5_1), .val (.int v6_2), .val (.int v7_3), .val (.long v8_12), .second, .val (.long v10_38), .second, .val (.long v12_39), .second, .unset, .unset] [(.ref b40)]))
  refine own_back ?_ (fun t k => XS.dup X55.here hx rfl (hb hby at_212) rfl rfl k)
  show own_Go p e below PO (T55.setTop (mkF m 213 #[.val (.int pA), .val (.int pB), .val (.int pC), .val (.long jR), .second, .val (.int v5_1), .val (.int v6_2), .val (.int v7_3), .val (.long v8_12), .second, .val (.long v10_38), .second, .val (.long v12_39), .second, .unset, .unset] [(.ref b40), (.ref b40)]))
  refine own_back ?_ (fun t k => XS.bipush X55.here hx rfl (hb hby at_213) k)
  show own_Go p e below PO (T55.setTop (mkF m 215 #[.val (.int pA), .val (.int pB), .val (.int pC), .val (.long jR), .second, .val (.int v5_1), .val (.int v6_2), .val (.int v7_3), .val (.long v8_12), .second, .val (.long v10_38), .second, .val (.long v12_39), .second, .unset, .unset] [(.int (8 : Int32)), (.ref b40), (.ref b40)]))
  refine own_back ?_ (fun t k => X55.ldcInt hx hown (mvT hZ (hw _ (List.mem_of_getElem? (i := 10) rfl))) (g := (mkF m 215 #[.val (.int pA), .val (.int pB), .val (.int pC), .val (.long jR), .second, .val (.int v5_1), .val (.int v6_2), .val (.int v7_3), .val (.long v8_12), .second, .val (.long v10_38), .second, .val (.long v12_39), .second, .unset, .unset] [(.int (8 : Int32)), (.ref b40), (.ref b40)])) rfl (hb hby at_215) _ k)
  show own_Go p e below PO (T55.setTop (mkF m 217 #[.val (.int pA), .val (.int pB), .val (.int pC), .val (.long jR), .second, .val (.int v5_1), .val (.int v6_2), .val (.int v7_3), .val (.long v8_12), .second, .val (.long v10_38), .second, .val (.long v12_39), .second, .unset, .unset] [(.int (100000000 : Int32)), (.int (8 : Int32)), (.ref b40), (.ref b40)]))
  obtain ⟨T57, h57, X57, e57, W57, V57, st57⟩ := own_stI X55 hx hZ e55 V55 (j := (8 : Int32)) ⟨by decide, by decide⟩ (i := 8) rfl (by decide) (g := (mkF m 217 #[.val (.int pA), .val (.int pB), .val (.int pC), .val (.long jR), .second, .val (.int v5_1), .val (.int v6_2), .val (.int v7_3), .val (.long v8_12), .second, .val (.long v10_38), .second, .val (.long v12_39), .second, .unset, .unset] [(.int (100000000 : Int32)), (.int (8 : Int32)), (.ref b40), (.ref b40)])) rfl rfl (hb hby at_217)
  replace V57 : Arv Z h57 b40 k40 .int (9 : Int32) [(.int (1 : Int32)), (.int (10 : Int32)), (.int (100 : Int32)), (.int (1000 : Int32)), (.int (10000 : Int32)), (.int (100000 : Int32)), (.int (1000000 : Int32)), (.int (10000000 : Int32)), (.int (100000000 : Int32))] (.int (0 : Int32)) := V57
  have f57_58 := f55_56.wr W57
  have K57 : Keep h0 h57 [] := (K55).wr W57 (Or.inr sz_b40)
  have N57 := Fr.snoc X57 N55 gn_b40
  have Zh57 : n0 ≤ h57.size := Nat.le_trans Z0 K57.1
  refine own_back ?_ st57
  show own_Go p e below PO (T57.setTop (mkF m 218 #[.val (.int pA), .val (.int pB), .val (.int pC), .val (.long jR), .second, .val (.int v5_1), .val (.int v6_2), .val (.int v7_3), .val (.long v8_12), .second, .val (.long v10_38), .second, .val (.long v12_39), .second, .unset, .unset] [(.ref b40)]))
  refine own_back ?_ (fun t k => XS.astore X57.here hx rfl (hb hby at_218) rfl rfl (l' := #[.val (.int pA), .val (.int pB), .val (.int pC), .val (.long jR), .second, .val (.int v5_1), .val (.int v6_2), .val (.int v7_3), .val (.long v8_12), .second, .val (.long v10_38), .second, .val (.long v12_39), .second, .val (.ref b40), .unset]) rfl k)
  show own_Go p e below PO (T57.setTop (mkF m 220 #[.val (.int pA), .val (.int pB), .val (.int pC), .val (.long jR), .second, .val (.int v5_1), .val (.int v6_2), .val (.int v7_3), .val (.long v8_12), .second, .val (.long v10_38), .second, .val (.long v12_39), .second, .val (.ref b40), .unset] []))
  refine own_back ?_ (fun t k => XS.iload X57.here hx rfl (hb hby at_220) rfl k)
  show own_Go p e below PO (T57.setTop (mkF m 222 #[.val (.int pA), .val (.int pB), .val (.int pC), .val (.long jR), .second, .val (.int v5_1), .val (.int v6_2), .val (.int v7_3), .val (.long v8_12), .second, .val (.long v10_38), .second, .val (.long v12_39), .second, .val (.ref b40), .unset] [(.int v5_1)]))
  refine own_back ?_ (fun t k => XS.sipush X57.here hx rfl (hb hby at_222) k)
  show own_Go p e below PO (T57.setTop (mkF m 225 #[.val (.int pA), .val (.int pB), .val (.int pC), .val (.long jR), .second, .val (.int v5_1), .val (.int v6_2), .val (.int v7_3), .val (.long v8_12), .second, .val (.long v10_38), .second, .val (.long v12_39), .second, .val (.ref b40), .unset] [(.int (10000 : Int32)), (.int v5_1)]))
  refine own_back ?_ (fun t k => XS.imul X57.here hx rfl (hb hby at_225) rfl k)
  show own_Go p e below PO (T57.setTop (mkF m 226 #[.val (.int pA), .val (.int pB), .val (.int pC), .val (.long jR), .second, .val (.int v5_1), .val (.int v6_2), .val (.int v7_3), .val (.long v8_12), .second, .val (.long v10_38), .second, .val (.long v12_39), .second, .val (.ref b40), .unset] [(.int (v5_1 * (10000 : Int32)))]))
  refine own_back ?_ (fun t k => XS.iload X57.here hx rfl (hb hby at_226) rfl k)
  show own_Go p e below PO (T57.setTop (mkF m 228 #[.val (.int pA), .val (.int pB), .val (.int pC), .val (.long jR), .second, .val (.int v5_1), .val (.int v6_2), .val (.int v7_3), .val (.long v8_12), .second, .val (.long v10_38), .second, .val (.long v12_39), .second, .val (.ref b40), .unset] [(.int v6_2), (.int (v5_1 * (10000 : Int32)))]))
  refine own_back ?_ (fun t k => XS.iadd X57.here hx rfl (hb hby at_228) rfl k)
  show own_Go p e below PO (T57.setTop (mkF m 229 #[.val (.int pA), .val (.int pB), .val (.int pC), .val (.long jR), .second, .val (.int v5_1), .val (.int v6_2), .val (.int v7_3), .val (.long v8_12), .second, .val (.long v10_38), .second, .val (.long v12_39), .second, .val (.ref b40), .unset] [(.int ((v5_1 * (10000 : Int32)) + v6_2))]))
  rcases own_r8 h_v7_3 with q59 | q59 | q59 | q59 | q59 | q59 | q59 | q59
  · subst q59
    show own_Go p e below PO (T57.setTop (mkF m 229 #[.val (.int pA), .val (.int pB), .val (.int pC), .val (.long jR), .second, .val (.int v5_1), .val (.int v6_2), .val (.int (1 : Int32)), .val (.long v8_12), .second, .val (.long v10_38), .second, .val (.long v12_39), .second, .val (.ref b40), .unset] [(.int ((v5_1 * (10000 : Int32)) + v6_2))]))
    refine own_back ?_ (fun t k => XS.aload X57.here hx rfl (hb hby at_229) rfl rfl k)
    show own_Go p e below PO (T57.setTop (mkF m 231 #[.val (.int pA), .val (.int pB), .val (.int pC), .val (.long jR), .second, .val (.int v5_1), .val (.int v6_2), .val (.int (1 : Int32)), .val (.long v8_12), .second, .val (.long v10_38), .second, .val (.long v12_39), .second, .val (.ref b40), .unset] [(.ref b40), (.int ((v5_1 * (10000 : Int32)) + v6_2))]))
    refine own_back ?_ (fun t k => XS.bipush X57.here hx rfl (hb hby at_231) k)
    show own_Go p e below PO (T57.setTop (mkF m 233 #[.val (.int pA), .val (.int pB), .val (.int pC), .val (.long jR), .second, .val (.int v5_1), .val (.int v6_2), .val (.int (1 : Int32)), .val (.long v8_12), .second, .val (.long v10_38), .second, .val (.long v12_39), .second, .val (.ref b40), .unset] [(.int (8 : Int32)), (.ref b40), (.int ((v5_1 * (10000 : Int32)) + v6_2))]))
    refine own_back ?_ (fun t k => XS.iload X57.here hx rfl (hb hby at_233) rfl k)
    show own_Go p e below PO (T57.setTop (mkF m 235 #[.val (.int pA), .val (.int pB), .val (.int pC), .val (.long jR), .second, .val (.int v5_1), .val (.int v6_2), .val (.int (1 : Int32)), .val (.long v8_12), .second, .val (.long v10_38), .second, .val (.long v12_39), .second, .val (.ref b40), .unset] [(.int (1 : Int32)), (.int (8 : Int32)), (.ref b40), (.int ((v5_1 * (10000 : Int32)) + v6_2))]))
    refine own_back ?_ (fun t k => XS.isub X57.here hx rfl (hb hby at_235) rfl k)
    show own_Go p e below PO (T57.setTop (mkF m 236 #[.val (.int pA), .val (.int pB), .val (.int pC), .val (.long jR), .second, .val (.int v5_1), .val (.int v6_2), .val (.int (1 : Int32)), .val (.long v8_12), .second, .val (.long v10_38), .second, .val (.long v12_39), .second, .val (.ref b40), .unset] [(.int (7 : Int32)), (.ref b40), (.int ((v5_1 * (10000 : Int32)) + v6_2))]))
    refine own_back ?_ (own_ldI X57 hx hZ e57 V57 (j := (7 : Int32)) (v := (.int (10000000 : Int32))) ⟨by decide, by decide⟩ rfl (g := (mkF m 236 #[.val (.int pA), .val (.int pB), .val (.int pC), .val (.long jR), .second, .val (.int v5_1), .val (.int v6_2), .val (.int (1 : Int32)), .val (.long v8_12), .second, .val (.long v10_38), .second, .val (.long v12_39), .second, .val (.ref b40), .unset] [(.int (7 : Int32)), (.ref b40), (.int ((v5_1 * (10000 : Int32)) + v6_2))])) rfl rfl (hb hby at_236))
    show own_Go p e below PO (T57.setTop (mkF m 237 #[.val (.int pA), .val (.int pB), .val (.int pC), .val (.long jR), .second, .val (.int v5_1), .val (.int v6_2), .val (.int (1 : Int32)), .val (.long v8_12), .second, .val (.long v10_38), .second, .val (.long v12_39), .second, .val (.ref b40), .unset] [(.int (10000000 : Int32)), (.int ((v5_1 * (10000 : Int32)) + v6_2))]))
    refine own_back ?_ (fun t k => XS.idiv X57.here hx rfl (hb hby at_237) rfl (by decide) k)
    show own_Go p e below PO (T57.setTop (mkF m 238 #[.val (.int pA), .val (.int pB), .val (.int pC), .val (.long jR), .second, .val (.int v5_1), .val (.int v6_2), .val (.int (1 : Int32)), .val (.long v8_12), .second, .val (.long v10_38), .second, .val (.long v12_39), .second, .val (.ref b40), .unset] [(.int (((v5_1 * (10000 : Int32)) + v6_2) / (10000000 : Int32)))]))
    refine own_back ?_ (fun t k => XS.istore X57.here hx rfl (hb hby at_238) rfl (l' := #[.val (.int pA), .val (.int pB), .val (.int pC), .val (.long jR), .second, .val (.int v5_1), .val (.int v6_2), .val (.int (1 : Int32)), .val (.long v8_12), .second, .val (.long v10_38), .second, .val (.long v12_39), .second, .val (.ref b40), .val (.int (((v5_1 * (10000 : Int32)) + v6_2) / (10000000 : Int32)))]) rfl k)
    show own_Go p e below PO (T57.setTop (mkF m 240 #[.val (.int pA), .val (.int pB), .val (.int pC), .val (.long jR), .second, .val (.int v5_1), .val (.int v6_2), .val (.int (1 : Int32)), .val (.long v8_12), .second, .val (.long v10_38), .second, .val (.long v12_39), .second, .val (.ref b40), .val (.int (((v5_1 * (10000 : Int32)) + v6_2) / (10000000 : Int32)))] []))
    refine own_gen (A := Int32) (((v5_1 * (10000 : Int32)) + v6_2) / (10000000 : Int32)) (fun v15_60 => own_Go p e below PO (T57.setTop (mkF m 240 #[.val (.int pA), .val (.int pB), .val (.int pC), .val (.long jR), .second, .val (.int v5_1), .val (.int v6_2), .val (.int (1 : Int32)), .val (.long v8_12), .second, .val (.long v10_38), .second, .val (.long v12_39), .second, .val (.ref b40), .val (.int v15_60)] []))) ?_
    intro v15_60 h_v15_60
    show own_Go p e below PO (T57.setTop (mkF m 240 #[.val (.int pA), .val (.int pB), .val (.int pC), .val (.long jR), .second, .val (.int v5_1), .val (.int v6_2), .val (.int (1 : Int32)), .val (.long v8_12), .second, .val (.long v10_38), .second, .val (.long v12_39), .second, .val (.ref b40), .val (.int v15_60)] []))
    refine own_back ?_ (fun t k => XS.lload X57.here hx rfl (hb hby at_240) rfl k)
    show own_Go p e below PO (T57.setTop (mkF m 242 #[.val (.int pA), .val (.int pB), .val (.int pC), .val (.long jR), .second, .val (.int v5_1), .val (.int v6_2), .val (.int (1 : Int32)), .val (.long v8_12), .second, .val (.long v10_38), .second, .val (.long v12_39), .second, .val (.ref b40), .val (.int v15_60)] [(.long v12_39)]))
    refine own_back ?_ (fun t k => XS.iload X57.here hx rfl (hb hby at_242) rfl k)
    show own_Go p e below PO (T57.setTop (mkF m 244 #[.val (.int pA), .val (.int pB), .val (.int pC), .val (.long jR), .second, .val (.int v5_1), .val (.int v6_2), .val (.int (1 : Int32)), .val (.long v8_12), .second, .val (.long v10_38), .second, .val (.long v12_39), .second, .val (.ref b40), .val (.int v15_60)] [(.int (1 : Int32)), (.long v12_39)]))
    obtain ⟨_, _, ⟨T61, L61, k61, n61⟩, -, X61, ⟨Lc61, hQ61, l61, y61, z61⟩, st61⟩ := Jvm.LawKit.callS X57 hx (y := (⟨"com/example/fillwire/fillwire/wire/Words", "decimal", "(JI)I"⟩ : MethodName)) hown (mvT hZ (hw _ (List.mem_of_getElem? (i := 11) rfl))) (mvT hZ (hw _ (List.mem_of_getElem? (i := 12) rfl))) (mvT hZ (hw _ (List.mem_of_getElem? (i := 13) rfl))) (mvT hZ (hw _ (List.mem_of_getElem? (i := 14) rfl))) (by decide) (backOf (W := 0) (rm2 l Z a0 hw [] v12_39 (1 : Int32)  h57 n0 Zh57 (own_sta_keep S_Z K57 all0)) hZ (hw _ (List.mem_of_getElem? (i := 14) rfl)) (hw _ (List.mem_of_getElem? (i := 13) rfl)) (by decide) (by decide)) (g := (mkF m 244 #[.val (.int pA), .val (.int pB), .val (.int pC), .val (.long jR), .second, .val (.int v5_1), .val (.int v6_2), .val (.int (1 : Int32)), .val (.long v8_12), .second, .val (.long v10_38), .second, .val (.long v12_39), .second, .val (.ref b40), .val (.int v15_60)] [(.int (1 : Int32)), (.long v12_39)])) rfl (by rw [hml]; rfl) (argsL := [(.long v12_39), (.int (1 : Int32))]) (rest := []) (lenOf pd_1 rfl) rfl (by show 2 * 0 + _ ≤ _; exact Nat.le_of_eq rfl) (hb hby at_244) (fun _ _ => ⟨rfl, e57, (by decide : 1 + 0 ≤ _), (by decide : 9 + 0 ≤ _)⟩)
    dsimp only [Pt.U, Pt.locs, Pt.cells, Pt.slots] at X61 l61 y61 z61 st61 hQ61
    subst l61 y61 z61
    obtain ⟨rfl, N61q, e61⟩ := hQ61
    have N61 := Fr.app N57 N61q
    refine own_back ?_ st61
    show own_Go p e below PO (T61.setTop (mkF m 247 #[.val (.int pA), .val (.int pB), .val (.int pC), .val (.long jR), .second, .val (.int v5_1), .val (.int v6_2), .val (.int (1 : Int32)), .val (.long v8_12), .second, .val (.long v10_38), .second, .val (.long v12_39), .second, .val (.ref b40), .val (.int v15_60)] [(.int (own_dec v12_39 (1 : Int32)))]))
    refine own_gen (A := Int32) (own_dec v12_39 (1 : Int32)) (fun r244_62 => own_Go p e below PO (T61.setTop (mkF m 247 #[.val (.int pA), .val (.int pB), .val (.int pC), .val (.long jR), .second, .val (.int v5_1), .val (.int v6_2), .val (.int (1 : Int32)), .val (.long v8_12), .second, .val (.long v10_38), .second, .val (.long v12_39), .second, .val (.ref b40), .val (.int v15_60)] [(.int r244_62)]))) ?_
    intro r244_62 h_r244_62
    show own_Go p e below PO (T61.setTop (mkF m 247 #[.val (.int pA), .val (.int pB), .val (.int pC), .val (.long jR), .second, .val (.int v5_1), .val (.int v6_2), .val (.int (1 : Int32)), .val (.long v8_12), .second, .val (.long v10_38), .second, .val (.long v12_39), .second, .val (.ref b40), .val (.int v15_60)] [(.int r244_62)]))
    refine own_back ?_ (fun t k => XS.iload X61.here hx rfl (hb hby at_247) rfl k)
    show own_Go p e below PO (T61.setTop (mkF m 249 #[.val (.int pA), .val (.int pB), .val (.int pC), .val (.long jR), .second, .val (.int v5_1), .val (.int v6_2), .val (.int (1 : Int32)), .val (.long v8_12), .second, .val (.long v10_38), .second, .val (.long v12_39), .second, .val (.ref b40), .val (.int v15_60)] [(.int v15_60), (.int r244_62)]))
    have hd249_63 : r244_62 = v15_60 := by rw [h_r244_62, h_v15_60]; exact own_main_1 h_v5_1 h_v6_2 h_v8_12 (by rw [h_v12_39, h_v10_38])
    refine own_back ?_ (fun t k => XS.icmpNo X61.here hx rfl (hb hby at_249) rfl (teq hd249_63).2 k)
    show own_Go p e below PO (T61.setTop (mkF m 252 #[.val (.int pA), .val (.int pB), .val (.int pC), .val (.long jR), .second, .val (.int v5_1), .val (.int v6_2), .val (.int (1 : Int32)), .val (.long v8_12), .second, .val (.long v10_38), .second, .val (.long v12_39), .second, .val (.ref b40), .val (.int v15_60)] []))
    refine own_back ?_ (fun t k => XS.iconst X61.here hx rfl (hb hby at_252) k)
    show own_Go p e below PO (T61.setTop (mkF m 253 #[.val (.int pA), .val (.int pB), .val (.int pC), .val (.long jR), .second, .val (.int v5_1), .val (.int v6_2), .val (.int (1 : Int32)), .val (.long v8_12), .second, .val (.long v10_38), .second, .val (.long v12_39), .second, .val (.ref b40), .val (.int v15_60)] [(.int (1 : Int32))]))
    refine own_back ?_ (fun t k => XS.goto X61.here hx rfl (pc0 := 253) (pc' := 257) rfl (hb hby at_253) (by decide) (by decide) k)
    show own_Go p e below PO (T61.setTop (mkF m 257 #[.val (.int pA), .val (.int pB), .val (.int pC), .val (.long jR), .second, .val (.int v5_1), .val (.int v6_2), .val (.int (1 : Int32)), .val (.long v8_12), .second, .val (.long v10_38), .second, .val (.long v12_39), .second, .val (.ref b40), .val (.int v15_60)] [(.int (1 : Int32))]))
    refine own_retN X61 hx (t := .boolean) (rest := []) Bd.returns (by decide) (by simp) (hb hby at_257) e61 (Bd.notSynchronized) ?_ (by decide) (by decide)
    exact ⟨rfl, N61⟩
  · subst q59
    show own_Go p e below PO (T57.setTop (mkF m 229 #[.val (.int pA), .val (.int pB), .val (.int pC), .val (.long jR), .second, .val (.int v5_1), .val (.int v6_2), .val (.int (2 : Int32)), .val (.long v8_12), .second, .val (.long v10_38), .second, .val (.long v12_39), .second, .val (.ref b40), .unset] [(.int ((v5_1 * (10000 : Int32)) + v6_2))]))
    refine own_back ?_ (fun t k => XS.aload X57.here hx rfl (hb hby at_229) rfl rfl k)
    show own_Go p e below PO (T57.setTop (mkF m 231 #[.val (.int pA), .val (.int pB), .val (.int pC), .val (.long jR), .second, .val (.int v5_1), .val (.int v6_2), .val (.int (2 : Int32)), .val (.long v8_12), .second, .val (.long v10_38), .second, .val (.long v12_39), .second, .val (.ref b40), .unset] [(.ref b40), (.int ((v5_1 * (10000 : Int32)) + v6_2))]))
    refine own_back ?_ (fun t k => XS.bipush X57.here hx rfl (hb hby at_231) k)
    show own_Go p e below PO (T57.setTop (mkF m 233 #[.val (.int pA), .val (.int pB), .val (.int pC), .val (.long jR), .second, .val (.int v5_1), .val (.int v6_2), .val (.int (2 : Int32)), .val (.long v8_12), .second, .val (.long v10_38), .second, .val (.long v12_39), .second, .val (.ref b40), .unset] [(.int (8 : Int32)), (.ref b40), (.int ((v5_1 * (10000 : Int32)) + v6_2))]))
    refine own_back ?_ (fun t k => XS.iload X57.here hx rfl (hb hby at_233) rfl k)
    show own_Go p e below PO (T57.setTop (mkF m 235 #[.val (.int pA), .val (.int pB), .val (.int pC), .val (.long jR), .second, .val (.int v5_1), .val (.int v6_2), .val (.int (2 : Int32)), .val (.long v8_12), .second, .val (.long v10_38), .second, .val (.long v12_39), .second, .val (.ref b40), .unset] [(.int (2 : Int32)), (.int (8 : Int32)), (.ref b40), (.int ((v5_1 * (10000 : Int32)) + v6_2))]))
    refine own_back ?_ (fun t k => XS.isub X57.here hx rfl (hb hby at_235) rfl k)
    show own_Go p e below PO (T57.setTop (mkF m 236 #[.val (.int pA), .val (.int pB), .val (.int pC), .val (.long jR), .second, .val (.int v5_1), .val (.int v6_2), .val (.int (2 : Int32)), .val (.long v8_12), .second, .val (.long v10_38), .second, .val (.long v12_39), .second, .val (.ref b40), .unset] [(.int (6 : Int32)), (.ref b40), (.int ((v5_1 * (10000 : Int32)) + v6_2))]))
    refine own_back ?_ (own_ldI X57 hx hZ e57 V57 (j := (6 : Int32)) (v := (.int (1000000 : Int32))) ⟨by decide, by decide⟩ rfl (g := (mkF m 236 #[.val (.int pA), .val (.int pB), .val (.int pC), .val (.long jR), .second, .val (.int v5_1), .val (.int v6_2), .val (.int (2 : Int32)), .val (.long v8_12), .second, .val (.long v10_38), .second, .val (.long v12_39), .second, .val (.ref b40), .unset] [(.int (6 : Int32)), (.ref b40), (.int ((v5_1 * (10000 : Int32)) + v6_2))])) rfl rfl (hb hby at_236))
    show own_Go p e below PO (T57.setTop (mkF m 237 #[.val (.int pA), .val (.int pB), .val (.int pC), .val (.long jR), .second, .val (.int v5_1), .val (.int v6_2), .val (.int (2 : Int32)), .val (.long v8_12), .second, .val (.long v10_38), .second, .val (.long v12_39), .second, .val (.ref b40), .unset] [(.int (1000000 : Int32)), (.int ((v5_1 * (10000 : Int32)) + v6_2))]))
    refine own_back ?_ (fun t k => XS.idiv X57.here hx rfl (hb hby at_237) rfl (by decide) k)
    show own_Go p e below PO (T57.setTop (mkF m 238 #[.val (.int pA), .val (.int pB), .val (.int pC), .val (.long jR), .second, .val (.int v5_1), .val (.int v6_2), .val (.int (2 : Int32)), .val (.long v8_12), .second, .val (.long v10_38), .second, .val (.long v12_39), .second, .val (.ref b40), .unset] [(.int (((v5_1 * (10000 : Int32)) + v6_2) / (1000000 : Int32)))]))
    refine own_back ?_ (fun t k => XS.istore X57.here hx rfl (hb hby at_238) rfl (l' := #[.val (.int pA), .val (.int pB), .val (.int pC), .val (.long jR), .second, .val (.int v5_1), .val (.int v6_2), .val (.int (2 : Int32)), .val (.long v8_12), .second, .val (.long v10_38), .second, .val (.long v12_39), .second, .val (.ref b40), .val (.int (((v5_1 * (10000 : Int32)) + v6_2) / (1000000 : Int32)))]) rfl k)
    show own_Go p e below PO (T57.setTop (mkF m 240 #[.val (.int pA), .val (.int pB), .val (.int pC), .val (.long jR), .second, .val (.int v5_1), .val (.int v6_2), .val (.int (2 : Int32)), .val (.long v8_12), .second, .val (.long v10_38), .second, .val (.long v12_39), .second, .val (.ref b40), .val (.int (((v5_1 * (10000 : Int32)) + v6_2) / (1000000 : Int32)))] []))
    refine own_gen (A := Int32) (((v5_1 * (10000 : Int32)) + v6_2) / (1000000 : Int32)) (fun v15_64 => own_Go p e below PO (T57.setTop (mkF m 240 #[.val (.int pA), .val (.int pB), .val (.int pC), .val (.long jR), .second, .val (.int v5_1), .val (.int v6_2), .val (.int (2 : Int32)), .val (.long v8_12), .second, .val (.long v10_38), .second, .val (.long v12_39), .second, .val (.ref b40), .val (.int v15_64)] []))) ?_
    intro v15_64 h_v15_64
    show own_Go p e below PO (T57.setTop (mkF m 240 #[.val (.int pA), .val (.int pB), .val (.int pC), .val (.long jR), .second, .val (.int v5_1), .val (.int v6_2), .val (.int (2 : Int32)), .val (.long v8_12), .second, .val (.long v10_38), .second, .val (.long v12_39), .second, .val (.ref b40), .val (.int v15_64)] []))
    refine own_back ?_ (fun t k => XS.lload X57.here hx rfl (hb hby at_240) rfl k)
    show own_Go p e below PO (T57.setTop (mkF m 242 #[.val (.int pA), .val (.int pB), .val (.int pC), .val (.long jR), .second, .val (.int v5_1), .val (.int v6_2), .val (.int (2 : Int32)), .val (.long v8_12), .second, .val (.long v10_38), .second, .val (.long v12_39), .second, .val (.ref b40), .val (.int v15_64)] [(.long v12_39)]))
    refine own_back ?_ (fun t k => XS.iload X57.here hx rfl (hb hby at_242) rfl k)
    show own_Go p e below PO (T57.setTop (mkF m 244 #[.val (.int pA), .val (.int pB), .val (.int pC), .val (.long jR), .second, .val (.int v5_1), .val (.int v6_2), .val (.int (2 : Int32)), .val (.long v8_12), .second, .val (.long v10_38), .second, .val (.long v12_39), .second, .val (.ref b40), .val (.int v15_64)] [(.int (2 : Int32)), (.long v12_39)]))
    obtain ⟨_, _, ⟨T65, L65, k65, n65⟩, -, X65, ⟨Lc65, hQ65, l65, y65, z65⟩, st65⟩ := Jvm.LawKit.callS X57 hx (y := (⟨"com/example/fillwire/fillwire/wire/Words", "decimal", "(JI)I"⟩ : MethodName)) hown (mvT hZ (hw _ (List.mem_of_getElem? (i := 11) rfl))) (mvT hZ (hw _ (List.mem_of_getElem? (i := 12) rfl))) (mvT hZ (hw _ (List.mem_of_getElem? (i := 13) rfl))) (mvT hZ (hw _ (List.mem_of_getElem? (i := 14) rfl))) (by decide) (backOf (W := 0) (rm2 l Z a0 hw [] v12_39 (2 : Int32)  h57 n0 Zh57 (own_sta_keep S_Z K57 all0)) hZ (hw _ (List.mem_of_getElem? (i := 14) rfl)) (hw _ (List.mem_of_getElem? (i := 13) rfl)) (by decide) (by decide)) (g := (mkF m 244 #[.val (.int pA), .val (.int pB), .val (.int pC), .val (.long jR), .second, .val (.int v5_1), .val (.int v6_2), .val (.int (2 : Int32)), .val (.long v8_12), .second, .val (.long v10_38), .second, .val (.long v12_39), .second, .val (.ref b40), .val (.int v15_64)] [(.int (2 : Int32)), (.long v12_39)])) rfl (by rw [hml]; rfl) (argsL := [(.long v12_39), (.int (2 : Int32))]) (rest := []) (lenOf pd_1 rfl) rfl (by show 2 * 0 + _ ≤ _; exact Nat.le_of_eq rfl) (hb hby at_244) (fun _ _ => ⟨rfl, e57, (by decide : 1 + 0 ≤ _), (by decide : 9 + 0 ≤ _)⟩)
    dsimp only [Pt.U, Pt.locs, Pt.cells, Pt.slots] at X65 l65 y65 z65 st65 hQ65
    subst l65 y65 z65
    obtain ⟨rfl, N65q, e65⟩ := hQ65
    have N65 := Fr.app N57 N65q
    refine own_back ?_ st65
    show own_Go p e below PO (T65.setTop (mkF m 247 #[.val (.int pA), .val (.int pB), .val (.int pC), .val (.long jR), .second, .val (.int v5_1), .val (.int v6_2), .val (.int (2 : Int32)), .val (.long v8_12), .second, .val (.long v10_38), .second, .val (.long v12_39), .second, .val (.ref b40), .val (.int v15_64)] [(.int (own_dec v12_39 (2 : Int32)))]))
    refine own_gen (A := Int32) (own_dec v12_39 (2 : Int32)) (fun r244_66 => own_Go p e below PO (T65.setTop (mkF m 247 #[.val (.int pA), .val (.int pB), .val (.int pC), .val (.long jR), .second, .val (.int v5_1), .val (.int v6_2), .val (.int (2 : Int32)), .val (.long v8_12), .second, .val (.long v10_38), .second, .val (.long v12_39), .second, .val (.ref b40), .val (.int v15_64)] [(.int r244_66)]))) ?_
    intro r244_66 h_r244_66
    show own_Go p e below PO (T65.setTop (mkF m 247 #[.val (.int pA), .val (.int pB), .val (.int pC), .val (.long jR), .second, .val (.int v5_1), .val (.int v6_2), .val (.int (2 : Int32)), .val (.long v8_12), .second, .val (.long v10_38), .second, .val (.long v12_39), .second, .val (.ref b40), .val (.int v15_64)] [(.int r244_66)]))
    refine own_back ?_ (fun t k => XS.iload X65.here hx rfl (hb hby at_247) rfl k)
    show own_Go p e below PO (T65.setTop (mkF m 249 #[.val (.int pA), .val (.int pB), .val (.int pC), .val (.long jR), .second, .val (.int v5_1), .val (.int v6_2), .val (.int (2 : Int32)), .val (.long v8_12), .second, .val (.long v10_38), .second, .val (.long v12_39), .second, .val (.ref b40), .val (.int v15_64)] [(.int v15_64), (.int r244_66)]))
    have hd249_67 : r244_66 = v15_64 := by rw [h_r244_66, h_v15_64]; exact own_main_2 h_v5_1 h_v6_2 h_v8_12 (by rw [h_v12_39, h_v10_38])
    refine own_back ?_ (fun t k => XS.icmpNo X65.here hx rfl (hb hby at_249) rfl (teq hd249_67).2 k)
    show own_Go p e below PO (T65.setTop (mkF m 252 #[.val (.int pA), .val (.int pB), .val (.int pC), .val (.long jR), .second, .val (.int v5_1), .val (.int v6_2), .val (.int (2 : Int32)), .val (.long v8_12), .second, .val (.long v10_38), .second, .val (.long v12_39), .second, .val (.ref b40), .val (.int v15_64)] []))
    refine own_back ?_ (fun t k => XS.iconst X65.here hx rfl (hb hby at_252) k)
    show own_Go p e below PO (T65.setTop (mkF m 253 #[.val (.int pA), .val (.int pB), .val (.int pC), .val (.long jR), .second, .val (.int v5_1), .val (.int v6_2), .val (.int (2 : Int32)), .val (.long v8_12), .second, .val (.long v10_38), .second, .val (.long v12_39), .second, .val (.ref b40), .val (.int v15_64)] [(.int (1 : Int32))]))
    refine own_back ?_ (fun t k => XS.goto X65.here hx rfl (pc0 := 253) (pc' := 257) rfl (hb hby at_253) (by decide) (by decide) k)
    show own_Go p e below PO (T65.setTop (mkF m 257 #[.val (.int pA), .val (.int pB), .val (.int pC), .val (.long jR), .second, .val (.int v5_1), .val (.int v6_2), .val (.int (2 : Int32)), .val (.long v8_12), .second, .val (.long v10_38), .second, .val (.long v12_39), .second, .val (.ref b40), .val (.int v15_64)] [(.int (1 : Int32))]))
    refine own_retN X65 hx (t := .boolean) (rest := []) Bd.returns (by decide) (by simp) (hb hby at_257) e65 (Bd.notSynchronized) ?_ (by decide) (by decide)
    exact ⟨rfl, N65⟩
  · subst q59
    show own_Go p e below PO (T57.setTop (mkF m 229 #[.val (.int pA), .val (.int pB), .val (.int pC), .val (.long jR), .second, .val (.int v5_1), .val (.int v6_2), .val (.int (3 : Int32)), .val (.long v8_12), .second, .val (.long v10_38), .second, .val (.long v12_39), .second, .val (.ref b40), .unset] [(.int ((v5_1 * (10000 : Int32)) + v6_2))]))
    refine own_back ?_ (fun t k => XS.aload X57.here hx rfl (hb hby at_229) rfl rfl k)
    show own_Go p e below PO (T57.setTop (mkF m 231 #[.val (.int pA), .val (.int pB), .val (.int pC), .val (.long jR), .second, .val (.int v5_1), .val (.int v6_2), .val (.int (3 : Int32)), .val (.long v8_12), .second, .val (.long v10_38), .second, .val (.long v12_39), .second, .val (.ref b40), .unset] [(.ref b40), (.int ((v5_1 * (10000 : Int32)) + v6_2))]))
    refine own_back ?_ (fun t k => XS.bipush X57.here hx rfl (hb hby at_231) k)
    show own_Go p e below PO (T57.setTop (mkF m 233 #[.val (.int pA), .val (.int pB), .val (.int pC), .val (.long jR), .second, .val (.int v5_1), .val (.int v6_2), .val (.int (3 : Int32)), .val (.long v8_12), .second, .val (.long v10_38), .second, .val (.long v12_39), .second, .val (.ref b40), .unset] [(.int (8 : Int32)), (.ref b40), (.int ((v5_1 * (10000 : Int32)) + v6_2))]))
    refine own_back ?_ (fun t k => XS.iload X57.here hx rfl (hb hby at_233) rfl k)
    show own_Go p e below PO (T57.setTop (mkF m 235 #[.val (.int pA), .val (.int pB), .val (.int pC), .val (.long jR), .second, .val (.int v5_1), .val (.int v6_2), .val (.int (3 : Int32)), .val (.long v8_12), .second, .val (.long v10_38), .second, .val (.long v12_39), .second, .val (.ref b40), .unset] [(.int (3 : Int32)), (.int (8 : Int32)), (.ref b40), (.int ((v5_1 * (10000 : Int32)) + v6_2))]))
    refine own_back ?_ (fun t k => XS.isub X57.here hx rfl (hb hby at_235) rfl k)
    show own_Go p e below PO (T57.setTop (mkF m 236 #[.val (.int pA), .val (.int pB), .val (.int pC), .val (.long jR), .second, .val (.int v5_1), .val (.int v6_2), .val (.int (3 : Int32)), .val (.long v8_12), .second, .val (.long v10_38), .second, .val (.long v12_39), .second, .val (.ref b40), .unset] [(.int (5 : Int32)), (.ref b40), (.int ((v5_1 * (10000 : Int32)) + v6_2))]))
    refine own_back ?_ (own_ldI X57 hx hZ e57 V57 (j := (5 : Int32)) (v := (.int (100000 : Int32))) ⟨by decide, by decide⟩ rfl (g := (mkF m 236 #[.val (.int pA), .val (.int pB), .val (.int pC), .val (.long jR), .second, .val (.int v5_1), .val (.int v6_2), .val (.int (3 : Int32)), .val (.long v8_12), .second, .val (.long v10_38), .second, .val (.long v12_39), .second, .val (.ref b40), .unset] [(.int (5 : Int32)), (.ref b40), (.int ((v5_1 * (10000 : Int32)) + v6_2))])) rfl rfl (hb hby at_236))
    show own_Go p e below PO (T57.setTop (mkF m 237 #[.val (.int pA), .val (.int pB), .val (.int pC), .val (.long jR), .second, .val (.int v5_1), .val (.int v6_2), .val (.int (3 : Int32)), .val (.long v8_12), .second, .val (.long v10_38), .second, .val (.long v12_39), .second, .val (.ref b40), .unset] [(.int (100000 : Int32)), (.int ((v5_1 * (10000 : Int32)) + v6_2))]))
    refine own_back ?_ (fun t k => XS.idiv X57.here hx rfl (hb hby at_237) rfl (by decide) k)
    show own_Go p e below PO (T57.setTop (mkF m 238 #[.val (.int pA), .val (.int pB), .val (.int pC), .val (.long jR), .second, .val (.int v5_1), .val (.int v6_2), .val (.int (3 : Int32)), .val (.long v8_12), .second, .val (.long v10_38), .second, .val (.long v12_39), .second, .val (.ref b40), .unset] [(.int (((v5_1 * (10000 : Int32)) + v6_2) / (100000 : Int32)))]))
    refine own_back ?_ (fun t k => XS.istore X57.here hx rfl (hb hby at_238) rfl (l' := #[.val (.int pA), .val (.int pB), .val (.int pC), .val (.long jR), .second, .val (.int v5_1), .val (.int v6_2), .val (.int (3 : Int32)), .val (.long v8_12), .second, .val (.long v10_38), .second, .val (.long v12_39), .second, .val (.ref b40), .val (.int (((v5_1 * (10000 : Int32)) + v6_2) / (100000 : Int32)))]) rfl k)
    show own_Go p e below PO (T57.setTop (mkF m 240 #[.val (.int pA), .val (.int pB), .val (.int pC), .val (.long jR), .second, .val (.int v5_1), .val (.int v6_2), .val (.int (3 : Int32)), .val (.long v8_12), .second, .val (.long v10_38), .second, .val (.long v12_39), .second, .val (.ref b40), .val (.int (((v5_1 * (10000 : Int32)) + v6_2) / (100000 : Int32)))] []))
    refine own_gen (A := Int32) (((v5_1 * (10000 : Int32)) + v6_2) / (100000 : Int32)) (fun v15_68 => own_Go p e below PO (T57.setTop (mkF m 240 #[.val (.int pA), .val (.int pB), .val (.int pC), .val (.long jR), .second, .val (.int v5_1), .val (.int v6_2), .val (.int (3 : Int32)), .val (.long v8_12), .second, .val (.long v10_38), .second, .val (.long v12_39), .second, .val (.ref b40), .val (.int v15_68)] []))) ?_
    intro v15_68 h_v15_68
    show own_Go p e below PO (T57.setTop (mkF m 240 #[.val (.int pA), .val (.int pB), .val (.int pC), .val (.long jR), .second, .val (.int v5_1), .val (.int v6_2), .val (.int (3 : Int32)), .val (.long v8_12), .second, .val (.long v10_38), .second, .val (.long v12_39), .second, .val (.ref b40), .val (.int v15_68)] []))
    refine own_back ?_ (fun t k => XS.lload X57.here hx rfl (hb hby at_240) rfl k)
    show own_Go p e below PO (T57.setTop (mkF m 242 #[.val (.int pA), .val (.int pB), .val (.int pC), .val (.long jR), .second, .val (.int v5_1), .val (.int v6_2), .val (.int (3 : Int32)), .val (.long v8_12), .second, .val (.long v10_38), .second, .val (.long v12_39), .second, .val (.ref b40), .val (.int v15_68)] [(.long v12_39)]))
    refine own_back ?_ (fun t k => XS.iload X57.here hx rfl (hb hby at_242) rfl k)
    show own_Go p e below PO (T57.setTop (mkF m 244 #[.val (.int pA), .val (.int pB), .val (.int pC), .val (.long jR), .second, .val (.int v5_1), .val (.int v6_2), .val (.int (3 : Int32)), .val (.long v8_12), .second, .val (.long v10_38), .second, .val (.long v12_39), .second, .val (.ref b40), .val (.int v15_68)] [(.int (3 : Int32)), (.long v12_39)]))
    obtain ⟨_, _, ⟨T69, L69, k69, n69⟩, -, X69, ⟨Lc69, hQ69, l69, y69, z69⟩, st69⟩ := Jvm.LawKit.callS X57 hx (y := (⟨"com/example/fillwire/fillwire/wire/Words", "decimal", "(JI)I"⟩ : MethodName)) hown (mvT hZ (hw _ (List.mem_of_getElem? (i := 11) rfl))) (mvT hZ (hw _ (List.mem_of_getElem? (i := 12) rfl))) (mvT hZ (hw _ (List.mem_of_getElem? (i := 13) rfl))) (mvT hZ (hw _ (List.mem_of_getElem? (i := 14) rfl))) (by decide) (backOf (W := 0) (rm2 l Z a0 hw [] v12_39 (3 : Int32)  h57 n0 Zh57 (own_sta_keep S_Z K57 all0)) hZ (hw _ (List.mem_of_getElem? (i := 14) rfl)) (hw _ (List.mem_of_getElem? (i := 13) rfl)) (by decide) (by decide)) (g := (mkF m 244 #[.val (.int pA), .val (.int pB), .val (.int pC), .val (.long jR), .second, .val (.int v5_1), .val (.int v6_2), .val (.int (3 : Int32)), .val (.long v8_12), .second, .val (.long v10_38), .second, .val (.long v12_39), .second, .val (.ref b40), .val (.int v15_68)] [(.int (3 : Int32)), (.long v12_39)])) rfl (by rw [hml]; rfl) (argsL := [(.long v12_39), (.int (3 : Int32))]) (rest := []) (lenOf pd_1 rfl) rfl (by show 2 * 0 + _ ≤ _; exact Nat.le_of_eq rfl) (hb hby at_244) (fun _ _ => ⟨rfl, e57, (by decide : 1 + 0 ≤ _), (by decide : 9 + 0 ≤ _)⟩)
    dsimp only [Pt.U, Pt.locs, Pt.cells, Pt.slots] at X69 l69 y69 z69 st69 hQ69
    subst l69 y69 z69
    obtain ⟨rfl, N69q, e69⟩ := hQ69
    have N69 := Fr.app N57 N69q
    refine own_back ?_ st69
    show own_Go p e below PO (T69.setTop (mkF m 247 #[.val (.int pA), .val (.int pB), .val (.int pC), .val (.long jR), .second, .val (.int v5_1), .val (.int v6_2), .val (.int (3 : Int32)), .val (.long v8_12), .second, .val (.long v10_38), .second, .val (.long v12_39), .second, .val (.ref b40), .val (.int v15_68)] [(.int (own_dec v12_39 (3 : Int32)))]))
    refine own_gen (A := Int32) (own_dec v12_39 (3 : Int32)) (fun r244_70 => own_Go p e below PO (T69.setTop (mkF m 247 #[.val (.int pA), .val (.int pB), .val (.int pC), .val (.long jR), .second, .val (.int v5_1), .val (.int v6_2), .val (.int (3 : Int32)), .val (.long v8_12), .second, .val (.long v10_38), .second, .val (.long v12_39), .second, .val (.ref b40), .val (.int v15_68)] [(.int r244_70)]))) ?_
    intro r244_70 h_r244_70
    show own_Go p e below PO (T69.setTop (mkF m 247 #[.val (.int pA), .val (.int pB), .val (.int pC), .val (.long jR), .second, .val (.int v5_1), .val (.int v6_2), .val (.int (3 : Int32)), .val (.long v8_12), .second, .val (.long v10_38), .second, .val (.long v12_39), .second, .val (.ref b40), .val (.int v15_68)] [(.int r244_70)]))
    refine own_back ?_ (fun t k => XS.iload X69.here hx rfl (hb hby at_247) rfl k)
    show own_Go p e below PO (T69.setTop (mkF m 249 #[.val (.int pA), .val (.int pB), .val (.int pC), .val (.long jR), .second, .val (.int v5_1), .val (.int v6_2), .val (.int (3 : Int32)), .val (.long v8_12), .second, .val (.long v10_38), .second, .val (.long v12_39), .second, .val (.ref b40), .val (.int v15_68)] [(.int v15_68), (.int r244_70)]))
    have hd249_71 : r244_70 = v15_68 := by rw [h_r244_70, h_v15_68]; exact own_main_3 h_v5_1 h_v6_2 h_v8_12 (by rw [h_v12_39, h_v10_38])
    refine own_back ?_ (fun t k => XS.icmpNo X69.here hx rfl (hb hby at_249) rfl (teq hd249_71).2 k)
    show own_Go p e below PO (T69.setTop (mkF m 252 #[.val (.int pA), .val (.int pB), .val (.int pC), .val (.long jR), .second, .val (.int v5_1), .val (.int v6_2), .val (.int (3 : Int32)), .val (.long v8_12), .second, .val (.long v10_38), .second, .val (.long v12_39), .second, .val (.ref b40), .val (.int v15_68)] []))
    refine own_back ?_ (fun t k => XS.iconst X69.here hx rfl (hb hby at_252) k)
    show own_Go p e below PO (T69.setTop (mkF m 253 #[.val (.int pA), .val (.int pB), .val (.int pC), .val (.long jR), .second, .val (.int v5_1), .val (.int v6_2), .val (.int (3 : Int32)), .val (.long v8_12), .second, .val (.long v10_38), .second, .val (.long v12_39), .second, .val (.ref b40), .val (.int v15_68)] [(.int (1 : Int32))]))
    refine own_back ?_ (fun t k => XS.goto X69.here hx rfl (pc0 := 253) (pc' := 257) rfl (hb hby at_253) (by decide) (by decide) k)
    show own_Go p e below PO (T69.setTop (mkF m 257 #[.val (.int pA), .val (.int pB), .val (.int pC), .val (.long jR), .second, .val (.int v5_1), .val (.int v6_2), .val (.int (3 : Int32)), .val (.long v8_12), .second, .val (.long v10_38), .second, .val (.long v12_39), .second, .val (.ref b40), .val (.int v15_68)] [(.int (1 : Int32))]))
    refine own_retN X69 hx (t := .boolean) (rest := []) Bd.returns (by decide) (by simp) (hb hby at_257) e69 (Bd.notSynchronized) ?_ (by decide) (by decide)
    exact ⟨rfl, N69⟩
  · subst q59
    show own_Go p e below PO (T57.setTop (mkF m 229 #[.val (.int pA), .val (.int pB), .val (.int pC), .val (.long jR), .second, .val (.int v5_1), .val (.int v6_2), .val (.int (4 : Int32)), .val (.long v8_12), .second, .val (.long v10_38), .second, .val (.long v12_39), .second, .val (.ref b40), .unset] [(.int ((v5_1 * (10000 : Int32)) + v6_2))]))
    refine own_back ?_ (fun t k => XS.aload X57.here hx rfl (hb hby at_229) rfl rfl k)
    show own_Go p e below PO (T57.setTop (mkF m 231 #[.val (.int pA), .val (.int pB), .val (.int pC), .val (.long jR), .second, .val (.int v5_1), .val (.int v6_2), .val (.int (4 : Int32)), .val (.long v8_12), .second, .val (.long v10_38), .second, .val (.long v12_39), .second, .val (.ref b40), .unset] [(.ref b40), (.int ((v5_1 * (10000 : Int32)) + v6_2))]))
    refine own_back ?_ (fun t k => XS.bipush X57.here hx rfl (hb hby at_231) k)
    show own_Go p e below PO (T57.setTop (mkF m 233 #[.val (.int pA), .val (.int pB), .val (.int pC), .val (.long jR), .second, .val (.int v5_1), .val (.int v6_2), .val (.int (4 : Int32)), .val (.long v8_12), .second, .val (.long v10_38), .second, .val (.long v12_39), .second, .val (.ref b40), .unset] [(.int (8 : Int32)), (.ref b40), (.int ((v5_1 * (10000 : Int32)) + v6_2))]))
    refine own_back ?_ (fun t k => XS.iload X57.here hx rfl (hb hby at_233) rfl k)
    show own_Go p e below PO (T57.setTop (mkF m 235 #[.val (.int pA), .val (.int pB), .val (.int pC), .val (.long jR), .second, .val (.int v5_1), .val (.int v6_2), .val (.int (4 : Int32)), .val (.long v8_12), .second, .val (.long v10_38), .second, .val (.long v12_39), .second, .val (.ref b40), .unset] [(.int (4 : Int32)), (.int (8 : Int32)), (.ref b40), (.int ((v5_1 * (10000 : Int32)) + v6_2))]))
    refine own_back ?_ (fun t k => XS.isub X57.here hx rfl (hb hby at_235) rfl k)
    show own_Go p e below PO (T57.setTop (mkF m 236 #[.val (.int pA), .val (.int pB), .val (.int pC), .val (.long jR), .second, .val (.int v5_1), .val (.int v6_2), .val (.int (4 : Int32)), .val (.long v8_12), .second, .val (.long v10_38), .second, .val (.long v12_39), .second, .val (.ref b40), .unset] [(.int (4 : Int32)), (.ref b40), (.int ((v5_1 * (10000 : Int32)) + v6_2))]))
    refine own_back ?_ (own_ldI X57 hx hZ e57 V57 (j := (4 : Int32)) (v := (.int (10000 : Int32))) ⟨by decide, by decide⟩ rfl (g := (mkF m 236 #[.val (.int pA), .val (.int pB), .val (.int pC), .val (.long jR), .second, .val (.int v5_1), .val (.int v6_2), .val (.int (4 : Int32)), .val (.long v8_12), .second, .val (.long v10_38), .second, .val (.long v12_39), .second, .val (.ref b40), .unset] [(.int (4 : Int32)), (.ref b40), (.int ((v5_1 * (10000 : Int32)) + v6_2))])) rfl rfl (hb hby at_236))
    show own_Go p e below PO (T57.setTop (mkF m 237 #[.val (.int pA), .val (.int pB), .val (.int pC), .val (.long jR), .second, .val (.int v5_1), .val (.int v6_2), .val (.int (4 : Int32)), .val (.long v8_12), .second, .val (.long v10_38), .second, .val (.long v12_39), .second, .val (.ref b40), .unset] [(.int (10000 : Int32)), (.int ((v5_1 * (10000 : Int32)) + v6_2))]))
    refine own_back ?_ (fun t k => XS.idiv X57.here hx rfl (hb hby at_237) rfl (by decide) k)
    show own_Go p e below PO (T57.setTop (mkF m 238 #[.val (.int pA), .val (.int pB), .val (.int pC), .val (.long jR), .second, .val (.int v5_1), .val (.int v6_2), .val (.int (4 : Int32)), .val (.long v8_12), .second, .val (.long v10_38), .second, .val (.long v12_39), .second, .val (.ref b40), .unset] [(.int (((v5_1 * (10000 : Int32)) + v6_2) / (10000 : Int32)))]))
    refine own_back ?_ (fun t k => XS.istore X57.here hx rfl (hb hby at_238) rfl (l' := #[.val (.int pA), .val (.int pB), .val (.int pC), .val (.long jR), .second, .val (.int v5_1), .val (.int v6_2), .val (.int (4 : Int32)), .val (.long v8_12), .second, .val (.long v10_38), .second, .val (.long v12_39), .second, .val (.ref b40), .val (.int (((v5_1 * (10000 : Int32)) + v6_2) / (10000 : Int32)))]) rfl k)
    show own_Go p e below PO (T57.setTop (mkF m 240 #[.val (.int pA), .val (.int pB), .val (.int pC), .val (.long jR), .second, .val (.int v5_1), .val (.int v6_2), .val (.int (4 : Int32)), .val (.long v8_12), .second, .val (.long v10_38), .second, .val (.long v12_39), .second, .val (.ref b40), .val (.int (((v5_1 * (10000 : Int32)) + v6_2) / (10000 : Int32)))] []))
    refine own_gen (A := Int32) (((v5_1 * (10000 : Int32)) + v6_2) / (10000 : Int32)) (fun v15_72 => own_Go p e below PO (T57.setTop (mkF m 240 #[.val (.int pA), .val (.int pB), .val (.int pC), .val (.long jR), .second, .val (.int v5_1), .val (.int v6_2), .val (.int (4 : Int32)), .val (.long v8_12), .second, .val (.long v10_38), .second, .val (.long v12_39), .second, .val (.ref b40), .val (.int v15_72)] []))) ?_
    intro v15_72 h_v15_72
    show own_Go p e below PO (T57.setTop (mkF m 240 #[.val (.int pA), .val (.int pB), .val (.int pC), .val (.long jR), .second, .val (.int v5_1), .val (.int v6_2), .val (.int (4 : Int32)), .val (.long v8_12), .second, .val (.long v10_38), .second, .val (.long v12_39), .second, .val (.ref b40), .val (.int v15_72)] []))
    refine own_back ?_ (fun t k => XS.lload X57.here hx rfl (hb hby at_240) rfl k)
    show own_Go p e below PO (T57.setTop (mkF m 242 #[.val (.int pA), .val (.int pB), .val (.int pC), .val (.long jR), .second, .val (.int v5_1), .val (.int v6_2), .val (.int (4 : Int32)), .val (.long v8_12), .second, .val (.long v10_38), .second, .val (.long v12_39), .second, .val (.ref b40), .val (.int v15_72)] [(.long v12_39)]))
    refine own_back ?_ (fun t k => XS.iload X57.here hx rfl (hb hby at_242) rfl k)
    show own_Go p e below PO (T57.setTop (mkF m 244 #[.val (.int pA), .val (.int pB), .val (.int pC), .val (.long jR), .second, .val (.int v5_1), .val (.int v6_2), .val (.int (4 : Int32)), .val (.long v8_12), .second, .val (.long v10_38), .second, .val (.long v12_39), .second, .val (.ref b40), .val (.int v15_72)] [(.int (4 : Int32)), (.long v12_39)]))
    obtain ⟨_, _, ⟨T73, L73, k73, n73⟩, -, X73, ⟨Lc73, hQ73, l73, y73, z73⟩, st73⟩ := Jvm.LawKit.callS X57 hx (y := (⟨"com/example/fillwire/fillwire/wire/Words", "decimal", "(JI)I"⟩ : MethodName)) hown (mvT hZ (hw _ (List.mem_of_getElem? (i := 11) rfl))) (mvT hZ (hw _ (List.mem_of_getElem? (i := 12) rfl))) (mvT hZ (hw _ (List.mem_of_getElem? (i := 13) rfl))) (mvT hZ (hw _ (List.mem_of_getElem? (i := 14) rfl))) (by decide) (backOf (W := 0) (rm2 l Z a0 hw [] v12_39 (4 : Int32)  h57 n0 Zh57 (own_sta_keep S_Z K57 all0)) hZ (hw _ (List.mem_of_getElem? (i := 14) rfl)) (hw _ (List.mem_of_getElem? (i := 13) rfl)) (by decide) (by decide)) (g := (mkF m 244 #[.val (.int pA), .val (.int pB), .val (.int pC), .val (.long jR), .second, .val (.int v5_1), .val (.int v6_2), .val (.int (4 : Int32)), .val (.long v8_12), .second, .val (.long v10_38), .second, .val (.long v12_39), .second, .val (.ref b40), .val (.int v15_72)] [(.int (4 : Int32)), (.long v12_39)])) rfl (by rw [hml]; rfl) (argsL := [(.long v12_39), (.int (4 : Int32))]) (rest := []) (lenOf pd_1 rfl) rfl (by show 2 * 0 + _ ≤ _; exact Nat.le_of_eq rfl) (hb hby at_244) (fun _ _ => ⟨rfl, e57, (by decide : 1 + 0 ≤ _), (by decide : 9 + 0 ≤ _)⟩)
    dsimp only [Pt.U, Pt.locs, Pt.cells, Pt.slots] at X73 l73 y73 z73 st73 hQ73
    subst l73 y73 z73
    obtain ⟨rfl, N73q, e73⟩ := hQ73
    have N73 := Fr.app N57 N73q
    refine own_back ?_ st73
    show own_Go p e below PO (T73.setTop (mkF m 247 #[.val (.int pA), .val (.int pB), .val (.int pC), .val (.long jR), .second, .val (.int v5_1), .val (.int v6_2), .val (.int (4 : Int32)), .val (.long v8_12), .second, .val (.long v10_38), .second, .val (.long v12_39), .second, .val (.ref b40), .val (.int v15_72)] [(.int (own_dec v12_39 (4 : Int32)))]))
    refine own_gen (A := Int32) (own_dec v12_39 (4 : Int32)) (fun r244_74 => own_Go p e below PO (T73.setTop (mkF m 247 #[.val (.int pA), .val (.int pB), .val (.int pC), .val (.long jR), .second, .val (.int v5_1), .val (.int v6_2), .val (.int (4 : Int32)), .val (.long v8_12), .second, .val (.long v10_38), .second, .val (.long v12_39), .second, .val (.ref b40), .val (.int v15_72)] [(.int r244_74)]))) ?_
    intro r244_74 h_r244_74
    show own_Go p e below PO (T73.setTop (mkF m 247 #[.val (.int pA), .val (.int pB), .val (.int pC), .val (.long jR), .second, .val (.int v5_1), .val (.int v6_2), .val (.int (4 : Int32)), .val (.long v8_12), .second, .val (.long v10_38), .second, .val (.long v12_39), .second, .val (.ref b40), .val (.int v15_72)] [(.int r244_74)]))
    refine own_back ?_ (fun t k => XS.iload X73.here hx rfl (hb hby at_247) rfl k)
    show own_Go p e below PO (T73.setTop (mkF m 249 #[.val (.int pA), .val (.int pB), .val (.int pC), .val (.long jR), .second, .val (.int v5_1), .val (.int v6_2), .val (.int (4 : Int32)), .val (.long v8_12), .second, .val (.long v10_38), .second, .val (.long v12_39), .second, .val (.ref b40), .val (.int v15_72)] [(.int v15_72), (.int r244_74)]))
    have hd249_75 : r244_74 = v15_72 := by rw [h_r244_74, h_v15_72]; exact own_main_4 h_v5_1 h_v6_2 h_v8_12 (by rw [h_v12_39, h_v10_38])
    refine own_back ?_ (fun t k => XS.icmpNo X73.here hx rfl (hb hby at_249) rfl (teq hd249_75).2 k)
    show own_Go p e below PO (T73.setTop (mkF m 252 #[.val (.int pA), .val (.int pB), .val (.int pC), .val (.long jR), .second, .val (.int v5_1), .val (.int v6_2), .val (.int (4 : Int32)), .val (.long v8_12), .second, .val (.long v10_38), .second, .val (.long v12_39), .second, .val (.ref b40), .val (.int v15_72)] []))
    refine own_back ?_ (fun t k => XS.iconst X73.here hx rfl (hb hby at_252) k)
    show own_Go p e below PO (T73.setTop (mkF m 253 #[.val (.int pA), .val (.int pB), .val (.int pC), .val (.long jR), .second, .val (.int v5_1), .val (.int v6_2), .val (.int (4 : Int32)), .val (.long v8_12), .second, .val (.long v10_38), .second, .val (.long v12_39), .second, .val (.ref b40), .val (.int v15_72)] [(.int (1 : Int32))]))
    refine own_back ?_ (fun t k => XS.goto X73.here hx rfl (pc0 := 253) (pc' := 257) rfl (hb hby at_253) (by decide) (by decide) k)
    show own_Go p e below PO (T73.setTop (mkF m 257 #[.val (.int pA), .val (.int pB), .val (.int pC), .val (.long jR), .second, .val (.int v5_1), .val (.int v6_2), .val (.int (4 : Int32)), .val (.long v8_12), .second, .val (.long v10_38), .second, .val (.long v12_39), .second, .val (.ref b40), .val (.int v15_72)] [(.int (1 : Int32))]))
    refine own_retN X73 hx (t := .boolean) (rest := []) Bd.returns (by decide) (by simp) (hb hby at_257) e73 (Bd.notSynchronized) ?_ (by decide) (by decide)
    exact ⟨rfl, N73⟩
  · subst q59
    show own_Go p e below PO (T57.setTop (mkF m 229 #[.val (.int pA), .val (.int pB), .val (.int pC), .val (.long jR), .second, .val (.int v5_1), .val (.int v6_2), .val (.int (5 : Int32)), .val (.long v8_12), .second, .val (.long v10_38), .second, .val (.long v12_39), .second, .val (.ref b40), .unset] [(.int ((v5_1 * (10000 : Int32)) + v6_2))]))
    refine own_back ?_ (fun t k => XS.aload X57.here hx rfl (hb hby at_229) rfl rfl k)
    show own_Go p e below PO (T57.setTop (mkF m 231 #[.val (.int pA), .val (.int pB), .val (.int pC), .val (.long jR), .second, .val (.int v5_1), .val (.int v6_2), .val (.int (5 : Int32)), .val (.long v8_12), .second, .val (.long v10_38), .second, .val (.long v12_39), .second, .val (.ref b40), .unset] [(.ref b40), (.int ((v5_1 * (10000 : Int32)) + v6_2))]))
    refine own_back ?_ (fun t k => XS.bipush X57.here hx rfl (hb hby at_231) k)
    show own_Go p e below PO (T57.setTop (mkF m 233 #[.val (.int pA), .val (.int pB), .val (.int pC), .val (.long jR), .second, .val (.int v5_1), .val (.int v6_2), .val (.int (5 : Int32)), .val (.long v8_12), .second, .val (.long v10_38), .second, .val (.long v12_39), .second, .val (.ref b40), .unset] [(.int (8 : Int32)), (.ref b40), (.int ((v5_1 * (10000 : Int32)) + v6_2))]))
    refine own_back ?_ (fun t k => XS.iload X57.here hx rfl (hb hby at_233) rfl k)
    show own_Go p e below PO (T57.setTop (mkF m 235 #[.val (.int pA), .val (.int pB), .val (.int pC), .val (.long jR), .second, .val (.int v5_1), .val (.int v6_2), .val (.int (5 : Int32)), .val (.long v8_12), .second, .val (.long v10_38), .second, .val (.long v12_39), .second, .val (.ref b40), .unset] [(.int (5 : Int32)), (.int (8 : Int32)), (.ref b40), (.int ((v5_1 * (10000 : Int32)) + v6_2))]))
    refine own_back ?_ (fun t k => XS.isub X57.here hx rfl (hb hby at_235) rfl k)
    show own_Go p e below PO (T57.setTop (mkF m 236 #[.val (.int pA), .val (.int pB), .val (.int pC), .val (.long jR), .second, .val (.int v5_1), .val (.int v6_2), .val (.int (5 : Int32)), .val (.long v8_12), .second, .val (.long v10_38), .second, .val (.long v12_39), .second, .val (.ref b40), .unset] [(.int (3 : Int32)), (.ref b40), (.int ((v5_1 * (10000 : Int32)) + v6_2))]))
    refine own_back ?_ (own_ldI X57 hx hZ e57 V57 (j := (3 : Int32)) (v := (.int (1000 : Int32))) ⟨by decide, by decide⟩ rfl (g := (mkF m 236 #[.val (.int pA), .val (.int pB), .val (.int pC), .val (.long jR), .second, .val (.int v5_1), .val (.int v6_2), .val (.int (5 : Int32)), .val (.long v8_12), .second, .val (.long v10_38), .second, .val (.long v12_39), .second, .val (.ref b40), .unset] [(.int (3 : Int32)), (.ref b40), (.int ((v5_1 * (10000 : Int32)) + v6_2))])) rfl rfl (hb hby at_236))
    show own_Go p e below PO (T57.setTop (mkF m 237 #[.val (.int pA), .val (.int pB), .val (.int pC), .val (.long jR), .second, .val (.int v5_1), .val (.int v6_2), .val (.int (5 : Int32)), .val (.long v8_12), .second, .val (.long v10_38), .second, .val (.long v12_39), .second, .val (.ref b40), .unset] [(.int (1000 : Int32)), (.int ((v5_1 * (10000 : Int32)) + v6_2))]))
    refine own_back ?_ (fun t k => XS.idiv X57.here hx rfl (hb hby at_237) rfl (by decide) k)
    show own_Go p e below PO (T57.setTop (mkF m 238 #[.val (.int pA), .val (.int pB), .val (.int pC), .val (.long jR), .second, .val (.int v5_1), .val (.int v6_2), .val (.int (5 : Int32)), .val (.long v8_12), .second, .val (.long v10_38), .second, .val (.long v12_39), .second, .val (.ref b40), .unset] [(.int (((v5_1 * (10000 : Int32)) + v6_2) / (1000 : Int32)))]))
    refine own_back ?_ (fun t k => XS.istore X57.here hx rfl (hb hby at_238) rfl (l' := #[.val (.int pA), .val (.int pB), .val (.int pC), .val (.long jR), .second, .val (.int v5_1), .val (.int v6_2), .val (.int (5 : Int32)), .val (.long v8_12), .second, .val (.long v10_38), .second, .val (.long v12_39), .second, .val (.ref b40), .val (.int (((v5_1 * (10000 : Int32)) + v6_2) / (1000 : Int32)))]) rfl k)
    show own_Go p e below PO (T57.setTop (mkF m 240 #[.val (.int pA), .val (.int pB), .val (.int pC), .val (.long jR), .second, .val (.int v5_1), .val (.int v6_2), .val (.int (5 : Int32)), .val (.long v8_12), .second, .val (.long v10_38), .second, .val (.long v12_39), .second, .val (.ref b40), .val (.int (((v5_1 * (10000 : Int32)) + v6_2) / (1000 : Int32)))] []))
    refine own_gen (A := Int32) (((v5_1 * (10000 : Int32)) + v6_2) / (1000 : Int32)) (fun v15_76 => own_Go p e below PO (T57.setTop (mkF m 240 #[.val (.int pA), .val (.int pB), .val (.int pC), .val (.long jR), .second, .val (.int v5_1), .val (.int v6_2), .val (.int (5 : Int32)), .val (.long v8_12), .second, .val (.long v10_38), .second, .val (.long v12_39), .second, .val (.ref b40), .val (.int v15_76)] []))) ?_
    intro v15_76 h_v15_76
    show own_Go p e below PO (T57.setTop (mkF m 240 #[.val (.int pA), .val (.int pB), .val (.int pC), .val (.long jR), .second, .val (.int v5_1), .val (.int v6_2), .val (.int (5 : Int32)), .val (.long v8_12), .second, .val (.long v10_38), .second, .val (.long v12_39), .second, .val (.ref b40), .val (.int v15_76)] []))
    refine own_back ?_ (fun t k => XS.lload X57.here hx rfl (hb hby at_240) rfl k)
    show own_Go p e below PO (T57.setTop (mkF m 242 #[.val (.int pA), .val (.int pB), .val (.int pC), .val (.long jR), .second, .val (.int v5_1), .val (.int v6_2), .val (.int (5 : Int32)), .val (.long v8_12), .second, .val (.long v10_38), .second, .val (.long v12_39), .second, .val (.ref b40), .val (.int v15_76)] [(.long v12_39)]))
    refine own_back ?_ (fun t k => XS.iload X57.here hx rfl (hb hby at_242) rfl k)
    show own_Go p e below PO (T57.setTop (mkF m 244 #[.val (.int pA), .val (.int pB), .val (.int pC), .val (.long jR), .second, .val (.int v5_1), .val (.int v6_2), .val (.int (5 : Int32)), .val (.long v8_12), .second, .val (.long v10_38), .second, .val (.long v12_39), .second, .val (.ref b40), .val (.int v15_76)] [(.int (5 : Int32)), (.long v12_39)]))
    obtain ⟨_, _, ⟨T77, L77, k77, n77⟩, -, X77, ⟨Lc77, hQ77, l77, y77, z77⟩, st77⟩ := Jvm.LawKit.callS X57 hx (y := (⟨"com/example/fillwire/fillwire/wire/Words", "decimal", "(JI)I"⟩ : MethodName)) hown (mvT hZ (hw _ (List.mem_of_getElem? (i := 11) rfl))) (mvT hZ (hw _ (List.mem_of_getElem? (i := 12) rfl))) (mvT hZ (hw _ (List.mem_of_getElem? (i := 13) rfl))) (mvT hZ (hw _ (List.mem_of_getElem? (i := 14) rfl))) (by decide) (backOf (W := 0) (rm2 l Z a0 hw [] v12_39 (5 : Int32)  h57 n0 Zh57 (own_sta_keep S_Z K57 all0)) hZ (hw _ (List.mem_of_getElem? (i := 14) rfl)) (hw _ (List.mem_of_getElem? (i := 13) rfl)) (by decide) (by decide)) (g := (mkF m 244 #[.val (.int pA), .val (.int pB), .val (.int pC), .val (.long jR), .second, .val (.int v5_1), .val (.int v6_2), .val (.int (5 : Int32)), .val (.long v8_12), .second, .val (.long v10_38), .second, .val (.long v12_39), .second, .val (.ref b40), .val (.int v15_76)] [(.int (5 : Int32)), (.long v12_39)])) rfl (by rw [hml]; rfl) (argsL := [(.long v12_39), (.int (5 : Int32))]) (rest := []) (lenOf pd_1 rfl) rfl (by show 2 * 0 + _ ≤ _; exact Nat.le_of_eq rfl) (hb hby at_244) (fun _ _ => ⟨rfl, e57, (by decide : 1 + 0 ≤ _), (by decide : 9 + 0 ≤ _)⟩)
    dsimp only [Pt.U, Pt.locs, Pt.cells, Pt.slots] at X77 l77 y77 z77 st77 hQ77
    subst l77 y77 z77
    obtain ⟨rfl, N77q, e77⟩ := hQ77
    have N77 := Fr.app N57 N77q
    refine own_back ?_ st77
    show own_Go p e below PO (T77.setTop (mkF m 247 #[.val (.int pA), .val (.int pB), .val (.int pC), .val (.long jR), .second, .val (.int v5_1), .val (.int v6_2), .val (.int (5 : Int32)), .val (.long v8_12), .second, .val (.long v10_38), .second, .val (.long v12_39), .second, .val (.ref b40), .val (.int v15_76)] [(.int (own_dec v12_39 (5 : Int32)))]))
    refine own_gen (A := Int32) (own_dec v12_39 (5 : Int32)) (fun r244_78 => own_Go p e below PO (T77.setTop (mkF m 247 #[.val (.int pA), .val (.int pB), .val (.int pC), .val (.long jR), .second, .val (.int v5_1), .val (.int v6_2), .val (.int (5 : Int32)), .val (.long v8_12), .second, .val (.long v10_38), .second, .val (.long v12_39), .second, .val (.ref b40), .val (.int v15_76)] [(.int r244_78)]))) ?_
    intro r244_78 h_r244_78
    show own_Go p e below PO (T77.setTop (mkF m 247 #[.val (.int pA), .val (.int pB), .val (.int pC), .val (.long jR), .second, .val (.int v5_1), .val (.int v6_2), .val (.int (5 : Int32)), .val (.long v8_12), .second, .val (.long v10_38), .second, .val (.long v12_39), .second, .val (.ref b40), .val (.int v15_76)] [(.int r244_78)]))
    refine own_back ?_ (fun t k => XS.iload X77.here hx rfl (hb hby at_247) rfl k)
    show own_Go p e below PO (T77.setTop (mkF m 249 #[.val (.int pA), .val (.int pB), .val (.int pC), .val (.long jR), .second, .val (.int v5_1), .val (.int v6_2), .val (.int (5 : Int32)), .val (.long v8_12), .second, .val (.long v10_38), .second, .val (.long v12_39), .second, .val (.ref b40), .val (.int v15_76)] [(.int v15_76), (.int r244_78)]))
    have hd249_79 : r244_78 = v15_76 := by rw [h_r244_78, h_v15_76]; exact own_main_5 h_v5_1 h_v6_2 h_v8_12 (by rw [h_v12_39, h_v10_38])
    refine own_back ?_ (fun t k => XS.icmpNo X77.here hx rfl (hb hby at_249) rfl (teq hd249_79).2 k)
    show own_Go p e below PO (T77.setTop (mkF m 252 #[.val (.int pA), .val (.int pB), .val (.int pC), .val (.long jR), .second, .val (.int v5_1), .val (.int v6_2), .val (.int (5 : Int32)), .val (.long v8_12), .second, .val (.long v10_38), .second, .val (.long v12_39), .second, .val (.ref b40), .val (.int v15_76)] []))
    refine own_back ?_ (fun t k => XS.iconst X77.here hx rfl (hb hby at_252) k)
    show own_Go p e below PO (T77.setTop (mkF m 253 #[.val (.int pA), .val (.int pB), .val (.int pC), .val (.long jR), .second, .val (.int v5_1), .val (.int v6_2), .val (.int (5 : Int32)), .val (.long v8_12), .second, .val (.long v10_38), .second, .val (.long v12_39), .second, .val (.ref b40), .val (.int v15_76)] [(.int (1 : Int32))]))
    refine own_back ?_ (fun t k => XS.goto X77.here hx rfl (pc0 := 253) (pc' := 257) rfl (hb hby at_253) (by decide) (by decide) k)
    show own_Go p e below PO (T77.setTop (mkF m 257 #[.val (.int pA), .val (.int pB), .val (.int pC), .val (.long jR), .second, .val (.int v5_1), .val (.int v6_2), .val (.int (5 : Int32)), .val (.long v8_12), .second, .val (.long v10_38), .second, .val (.long v12_39), .second, .val (.ref b40), .val (.int v15_76)] [(.int (1 : Int32))]))
    refine own_retN X77 hx (t := .boolean) (rest := []) Bd.returns (by decide) (by simp) (hb hby at_257) e77 (Bd.notSynchronized) ?_ (by decide) (by decide)
    exact ⟨rfl, N77⟩
  · subst q59
    show own_Go p e below PO (T57.setTop (mkF m 229 #[.val (.int pA), .val (.int pB), .val (.int pC), .val (.long jR), .second, .val (.int v5_1), .val (.int v6_2), .val (.int (6 : Int32)), .val (.long v8_12), .second, .val (.long v10_38), .second, .val (.long v12_39), .second, .val (.ref b40), .unset] [(.int ((v5_1 * (10000 : Int32)) + v6_2))]))
    refine own_back ?_ (fun t k => XS.aload X57.here hx rfl (hb hby at_229) rfl rfl k)
    show own_Go p e below PO (T57.setTop (mkF m 231 #[.val (.int pA), .val (.int pB), .val (.int pC), .val (.long jR), .second, .val (.int v5_1), .val (.int v6_2), .val (.int (6 : Int32)), .val (.long v8_12), .second, .val (.long v10_38), .second, .val (.long v12_39), .second, .val (.ref b40), .unset] [(.ref b40), (.int ((v5_1 * (10000 : Int32)) + v6_2))]))
    refine own_back ?_ (fun t k => XS.bipush X57.here hx rfl (hb hby at_231) k)
    show own_Go p e below PO (T57.setTop (mkF m 233 #[.val (.int pA), .val (.int pB), .val (.int pC), .val (.long jR), .second, .val (.int v5_1), .val (.int v6_2), .val (.int (6 : Int32)), .val (.long v8_12), .second, .val (.long v10_38), .second, .val (.long v12_39), .second, .val (.ref b40), .unset] [(.int (8 : Int32)), (.ref b40), (.int ((v5_1 * (10000 : Int32)) + v6_2))]))
    refine own_back ?_ (fun t k => XS.iload X57.here hx rfl (hb hby at_233) rfl k)
    show own_Go p e below PO (T57.setTop (mkF m 235 #[.val (.int pA), .val (.int pB), .val (.int pC), .val (.long jR), .second, .val (.int v5_1), .val (.int v6_2), .val (.int (6 : Int32)), .val (.long v8_12), .second, .val (.long v10_38), .second, .val (.long v12_39), .second, .val (.ref b40), .unset] [(.int (6 : Int32)), (.int (8 : Int32)), (.ref b40), (.int ((v5_1 * (10000 : Int32)) + v6_2))]))
    refine own_back ?_ (fun t k => XS.isub X57.here hx rfl (hb hby at_235) rfl k)
    show own_Go p e below PO (T57.setTop (mkF m 236 #[.val (.int pA), .val (.int pB), .val (.int pC), .val (.long jR), .second, .val (.int v5_1), .val (.int v6_2), .val (.int (6 : Int32)), .val (.long v8_12), .second, .val (.long v10_38), .second, .val (.long v12_39), .second, .val (.ref b40), .unset] [(.int (2 : Int32)), (.ref b40), (.int ((v5_1 * (10000 : Int32)) + v6_2))]))
    refine own_back ?_ (own_ldI X57 hx hZ e57 V57 (j := (2 : Int32)) (v := (.int (100 : Int32))) ⟨by decide, by decide⟩ rfl (g := (mkF m 236 #[.val (.int pA), .val (.int pB), .val (.int pC), .val (.long jR), .second, .val (.int v5_1), .val (.int v6_2), .val (.int (6 : Int32)), .val (.long v8_12), .second, .val (.long v10_38), .second, .val (.long v12_39), .second, .val (.ref b40), .unset] [(.int (2 : Int32)), (.ref b40), (.int ((v5_1 * (10000 : Int32)) + v6_2))])) rfl rfl (hb hby at_236))
    show own_Go p e below PO (T57.setTop (mkF m 237 #[.val (.int pA), .val (.int pB), .val (.int pC), .val (.long jR), .second, .val (.int v5_1), .val (.int v6_2), .val (.int (6 : Int32)), .val (.long v8_12), .second, .val (.long v10_38), .second, .val (.long v12_39), .second, .val (.ref b40), .unset] [(.int (100 : Int32)), (.int ((v5_1 * (10000 : Int32)) + v6_2))]))
    refine own_back ?_ (fun t k => XS.idiv X57.here hx rfl (hb hby at_237) rfl (by decide) k)
    show own_Go p e below PO (T57.setTop (mkF m 238 #[.val (.int pA), .val (.int pB), .val (.int pC), .val (.long jR), .second, .val (.int v5_1), .val (.int v6_2), .val (.int (6 : Int32)), .val (.long v8_12), .second, .val (.long v10_38), .second, .val (.long v12_39), .second, .val (.ref b40), .unset] [(.int (((v5_1 * (10000 : Int32)) + v6_2) / (100 : Int32)))]))
    refine own_back ?_ (fun t k => XS.istore X57.here hx rfl (hb hby at_238) rfl (l' := #[.val (.int pA), .val (.int pB), .val (.int pC), .val (.long jR), .second, .val (.int v5_1), .val (.int v6_2), .val (.int (6 : Int32)), .val (.long v8_12), .second, .val (.long v10_38), .second, .val (.long v12_39), .second, .val (.ref b40), .val (.int (((v5_1 * (10000 : Int32)) + v6_2) / (100 : Int32)))]) rfl k)
    show own_Go p e below PO (T57.setTop (mkF m 240 #[.val (.int pA), .val (.int pB), .val (.int pC), .val (.long jR), .second, .val (.int v5_1), .val (.int v6_2), .val (.int (6 : Int32)), .val (.long v8_12), .second, .val (.long v10_38), .second, .val (.long v12_39), .second, .val (.ref b40), .val (.int (((v5_1 * (10000 : Int32)) + v6_2) / (100 : Int32)))] []))
    refine own_gen (A := Int32) (((v5_1 * (10000 : Int32)) + v6_2) / (100 : Int32)) (fun v15_80 => own_Go p e below PO (T57.setTop (mkF m 240 #[.val (.int pA), .val (.int pB), .val (.int pC), .val (.long jR), .second, .val (.int v5_1), .val (.int v6_2), .val (.int (6 : Int32)), .val (.long v8_12), .second, .val (.long v10_38), .second, .val (.long v12_39), .second, .val (.ref b40), .val (.int v15_80)] []))) ?_
    intro v15_80 h_v15_80
    show own_Go p e below PO (T57.setTop (mkF m 240 #[.val (.int pA), .val (.int pB), .val (.int pC), .val (.long jR), .second, .val (.int v5_1), .val (.int v6_2), .val (.int (6 : Int32)), .val (.long v8_12), .second, .val (.long v10_38), .second, .val (.long v12_39), .second, .val (.ref b40), .val (.int v15_80)] []))
    refine own_back ?_ (fun t k => XS.lload X57.here hx rfl (hb hby at_240) rfl k)
    show own_Go p e below PO (T57.setTop (mkF m 242 #[.val (.int pA), .val (.int pB), .val (.int pC), .val (.long jR), .second, .val (.int v5_1), .val (.int v6_2), .val (.int (6 : Int32)), .val (.long v8_12), .second, .val (.long v10_38), .second, .val (.long v12_39), .second, .val (.ref b40), .val (.int v15_80)] [(.long v12_39)]))
    refine own_back ?_ (fun t k => XS.iload X57.here hx rfl (hb hby at_242) rfl k)
    show own_Go p e below PO (T57.setTop (mkF m 244 #[.val (.int pA), .val (.int pB), .val (.int pC), .val (.long jR), .second, .val (.int v5_1), .val (.int v6_2), .val (.int (6 : Int32)), .val (.long v8_12), .second, .val (.long v10_38), .second, .val (.long v12_39), .second, .val (.ref b40), .val (.int v15_80)] [(.int (6 : Int32)), (.long v12_39)]))
    obtain ⟨_, _, ⟨T81, L81, k81, n81⟩, -, X81, ⟨Lc81, hQ81, l81, y81, z81⟩, st81⟩ := Jvm.LawKit.callS X57 hx (y := (⟨"com/example/fillwire/fillwire/wire/Words", "decimal", "(JI)I"⟩ : MethodName)) hown (mvT hZ (hw _ (List.mem_of_getElem? (i := 11) rfl))) (mvT hZ (hw _ (List.mem_of_getElem? (i := 12) rfl))) (mvT hZ (hw _ (List.mem_of_getElem? (i := 13) rfl))) (mvT hZ (hw _ (List.mem_of_getElem? (i := 14) rfl))) (by decide) (backOf (W := 0) (rm2 l Z a0 hw [] v12_39 (6 : Int32)  h57 n0 Zh57 (own_sta_keep S_Z K57 all0)) hZ (hw _ (List.mem_of_getElem? (i := 14) rfl)) (hw _ (List.mem_of_getElem? (i := 13) rfl)) (by decide) (by decide)) (g := (mkF m 244 #[.val (.int pA), .val (.int pB), .val (.int pC), .val (.long jR), .second, .val (.int v5_1), .val (.int v6_2), .val (.int (6 : Int32)), .val (.long v8_12), .second, .val (.long v10_38), .second, .val (.long v12_39), .second, .val (.ref b40), .val (.int v15_80)] [(.int (6 : Int32)), (.long v12_39)])) rfl (by rw [hml]; rfl) (argsL := [(.long v12_39), (.int (6 : Int32))]) (rest := []) (lenOf pd_1 rfl) rfl (by show 2 * 0 + _ ≤ _; exact Nat.le_of_eq rfl) (hb hby at_244) (fun _ _ => ⟨rfl, e57, (by decide : 1 + 0 ≤ _), (by decide : 9 + 0 ≤ _)⟩)
    dsimp only [Pt.U, Pt.locs, Pt.cells, Pt.slots] at X81 l81 y81 z81 st81 hQ81
    subst l81 y81 z81
    obtain ⟨rfl, N81q, e81⟩ := hQ81
    have N81 := Fr.app N57 N81q
    refine own_back ?_ st81
    show own_Go p e below PO (T81.setTop (mkF m 247 #[.val (.int pA), .val (.int pB), .val (.int pC), .val (.long jR), .second, .val (.int v5_1), .val (.int v6_2), .val (.int (6 : Int32)), .val (.long v8_12), .second, .val (.long v10_38), .second, .val (.long v12_39), .second, .val (.ref b40), .val (.int v15_80)] [(.int (own_dec v12_39 (6 : Int32)))]))
    refine own_gen (A := Int32) (own_dec v12_39 (6 : Int32)) (fun r244_82 => own_Go p e below PO (T81.setTop (mkF m 247 #[.val (.int pA), .val (.int pB), .val (.int pC), .val (.long jR), .second, .val (.int v5_1), .val (.int v6_2), .val (.int (6 : Int32)), .val (.long v8_12), .second, .val (.long v10_38), .second, .val (.long v12_39), .second, .val (.ref b40), .val (.int v15_80)] [(.int r244_82)]))) ?_
    intro r244_82 h_r244_82
    show own_Go p e below PO (T81.setTop (mkF m 247 #[.val (.int pA), .val (.int pB), .val (.int pC), .val (.long jR), .second, .val (.int v5_1), .val (.int v6_2), .val (.int (6 : Int32)), .val (.long v8_12), .second, .val (.long v10_38), .second, .val (.long v12_39), .second, .val (.ref b40), .val (.int v15_80)] [(.int r244_82)]))
    refine own_back ?_ (fun t k => XS.iload X81.here hx rfl (hb hby at_247) rfl k)
    show own_Go p e below PO (T81.setTop (mkF m 249 #[.val (.int pA), .val (.int pB), .val (.int pC), .val (.long jR), .second, .val (.int v5_1), .val (.int v6_2), .val (.int (6 : Int32)), .val (.long v8_12), .second, .val (.long v10_38), .second, .val (.long v12_39), .second, .val (.ref b40), .val (.int v15_80)] [(.int v15_80), (.int r244_82)]))
    have hd249_83 : r244_82 = v15_80 := by rw [h_r244_82, h_v15_80]; exact own_main_6 h_v5_1 h_v6_2 h_v8_12 (by rw [h_v12_39, h_v10_38])
    refine own_back ?_ (fun t k => XS.icmpNo X81.here hx rfl (hb hby at_249) rfl (teq hd249_83).2 k)
    show own_Go p e below PO (T81.setTop (mkF m 252 #[.val (.int pA), .val (.int pB), .val (.int pC), .val (.long jR), .second, .val (.int v5_1), .val (.int v6_2), .val (.int (6 : Int32)), .val (.long v8_12), .second, .val (.long v10_38), .second, .val (.long v12_39), .second, .val (.ref b40), .val (.int v15_80)] []))
    refine own_back ?_ (fun t k => XS.iconst X81.here hx rfl (hb hby at_252) k)
    show own_Go p e below PO (T81.setTop (mkF m 253 #[.val (.int pA), .val (.int pB), .val (.int pC), .val (.long jR), .second, .val (.int v5_1), .val (.int v6_2), .val (.int (6 : Int32)), .val (.long v8_12), .second, .val (.long v10_38), .second, .val (.long v12_39), .second, .val (.ref b40), .val (.int v15_80)] [(.int (1 : Int32))]))
    refine own_back ?_ (fun t k => XS.goto X81.here hx rfl (pc0 := 253) (pc' := 257) rfl (hb hby at_253) (by decide) (by decide) k)
    show own_Go p e below PO (T81.setTop (mkF m 257 #[.val (.int pA), .val (.int pB), .val (.int pC), .val (.long jR), .second, .val (.int v5_1), .val (.int v6_2), .val (.int (6 : Int32)), .val (.long v8_12), .second, .val (.long v10_38), .second, .val (.long v12_39), .second, .val (.ref b40), .val (.int v15_80)] [(.int (1 : Int32))]))
    refine own_retN X81 hx (t := .boolean) (rest := []) Bd.returns (by decide) (by simp) (hb hby at_257) e81 (Bd.notSynchronized) ?_ (by decide) (by decide)
    exact ⟨rfl, N81⟩
  · subst q59
    show own_Go p e below PO (T57.setTop (mkF m 229 #[.val (.int pA), .val (.int pB), .val (.int pC), .val (.long jR), .second, .val (.int v5_1), .val (.int v6_2), .val (.int (7 : Int32)), .val (.long v8_12), .second, .val (.long v10_38), .second, .val (.long v12_39), .second, .val (.ref b40), .unset] [(.int ((v5_1 * (10000 : Int32)) + v6_2))]))
    refine own_back ?_ (fun t k => XS.aload X57.here hx rfl (hb hby at_229) rfl rfl k)
    show own_Go p e below PO (T57.setTop (mkF m 231 #[.val (.int pA), .val (.int pB), .val (.int pC), .val (.long jR), .second, .val (.int v5_1), .val (.int v6_2), .val (.int (7 : Int32)), .val (.long v8_12), .second, .val (.long v10_38), .second, .val (.long v12_39), .second, .val (.ref b40), .unset] [(.ref b40), (.int ((v5_1 * (10000 : Int32)) + v6_2))]))
    refine own_back ?_ (fun t k => XS.bipush X57.here hx rfl (hb hby at_231) k)
    show own_Go p e below PO (T57.setTop (mkF m 233 #[.val (.int pA), .val (.int pB), .val (.int pC), .val (.long jR), .second, .val (.int v5_1), .val (.int v6_2), .val (.int (7 : Int32)), .val (.long v8_12), .second, .val (.long v10_38), .second, .val (.long v12_39), .second, .val (.ref b40), .unset] [(.int (8 : Int32)), (.ref b40), (.int ((v5_1 * (10000 : Int32)) + v6_2))]))
    refine own_back ?_ (fun t k => XS.iload X57.here hx rfl (hb hby at_233) rfl k)
    show own_Go p e below PO (T57.setTop (mkF m 235 #[.val (.int pA), .val (.int pB), .val (.int pC), .val (.long jR), .second, .val (.int v5_1), .val (.int v6_2), .val (.int (7 : Int32)), .val (.long v8_12), .second, .val (.long v10_38), .second, .val (.long v12_39), .second, .val (.ref b40), .unset] [(.int (7 : Int32)), (.int (8 : Int32)), (.ref b40), (.int ((v5_1 * (10000 : Int32)) + v6_2))]))
    refine own_back ?_ (fun t k => XS.isub X57.here hx rfl (hb hby at_235) rfl k)
    show own_Go p e below PO (T57.setTop (mkF m 236 #[.val (.int pA), .val (.int pB), .val (.int pC), .val (.long jR), .second, .val (.int v5_1), .val (.int v6_2), .val (.int (7 : Int32)), .val (.long v8_12), .second, .val (.long v10_38), .second, .val (.long v12_39), .second, .val (.ref b40), .unset] [(.int (1 : Int32)), (.ref b40), (.int ((v5_1 * (10000 : Int32)) + v6_2))]))
    refine own_back ?_ (own_ldI X57 hx hZ e57 V57 (j := (1 : Int32)) (v := (.int (10 : Int32))) ⟨by decide, by decide⟩ rfl (g := (mkF m 236 #[.val (.int pA), .val (.int pB), .val (.int pC), .val (.long jR), .second, .val (.int v5_1), .val (.int v6_2), .val (.int (7 : Int32)), .val (.long v8_12), .second, .val (.long v10_38), .second, .val (.long v12_39), .second, .val (.ref b40), .unset] [(.int (1 : Int32)), (.ref b40), (.int ((v5_1 * (10000 : Int32)) + v6_2))])) rfl rfl (hb hby at_236))
    show own_Go p e below PO (T57.setTop (mkF m 237 #[.val (.int pA), .val (.int pB), .val (.int pC), .val (.long jR), .second, .val (.int v5_1), .val (.int v6_2), .val (.int (7 : Int32)), .val (.long v8_12), .second, .val (.long v10_38), .second, .val (.long v12_39), .second, .val (.ref b40), .unset] [(.int (10 : Int32)), (.int ((v5_1 * (10000 : Int32)) + v6_2))]))
    refine own_back ?_ (fun t k => XS.idiv X57.here hx rfl (hb hby at_237) rfl (by decide) k)
    show own_Go p e below PO (T57.setTop (mkF m 238 #[.val (.int pA), .val (.int pB), .val (.int pC), .val (.long jR), .second, .val (.int v5_1), .val (.int v6_2), .val (.int (7 : Int32)), .val (.long v8_12), .second, .val (.long v10_38), .second, .val (.long v12_39), .second, .val (.ref b40), .unset] [(.int (((v5_1 * (10000 : Int32)) + v6_2) / (10 : Int32)))]))
    refine own_back ?_ (fun t k => XS.istore X57.here hx rfl (hb hby at_238) rfl (l' := #[.val (.int pA), .val (.int pB), .val (.int pC), .val (.long jR), .second, .val (.int v5_1), .val (.int v6_2), .val (.int (7 : Int32)), .val (.long v8_12), .second, .val (.long v10_38), .second, .val (.long v12_39), .second, .val (.ref b40), .val (.int (((v5_1 * (10000 : Int32)) + v6_2) / (10 : Int32)))]) rfl k)
    show own_Go p e below PO (T57.setTop (mkF m 240 #[.val (.int pA), .val (.int pB), .val (.int pC), .val (.long jR), .second, .val (.int v5_1), .val (.int v6_2), .val (.int (7 : Int32)), .val (.long v8_12), .second, .val (.long v10_38), .second, .val (.long v12_39), .second, .val (.ref b40), .val (.int (((v5_1 * (10000 : Int32)) + v6_2) / (10 : Int32)))] []))
    refine own_gen (A := Int32) (((v5_1 * (10000 : Int32)) + v6_2) / (10 : Int32)) (fun v15_84 => own_Go p e below PO (T57.setTop (mkF m 240 #[.val (.int pA), .val (.int pB), .val (.int pC), .val (.long jR), .second, .val (.int v5_1), .val (.int v6_2), .val (.int (7 : Int32)), .val (.long v8_12), .second, .val (.long v10_38), .second, .val (.long v12_39), .second, .val (.ref b40), .val (.int v15_84)] []))) ?_
    intro v15_84 h_v15_84
    show own_Go p e below PO (T57.setTop (mkF m 240 #[.val (.int pA), .val (.int pB), .val (.int pC), .val (.long jR), .second, .val (.int v5_1), .val (.int v6_2), .val (.int (7 : Int32)), .val (.long v8_12), .second, .val (.long v10_38), .second, .val (.long v12_39), .second, .val (.ref b40), .val (.int v15_84)] []))
    refine own_back ?_ (fun t k => XS.lload X57.here hx rfl (hb hby at_240) rfl k)
    show own_Go p e below PO (T57.setTop (mkF m 242 #[.val (.int pA), .val (.int pB), .val (.int pC), .val (.long jR), .second, .val (.int v5_1), .val (.int v6_2), .val (.int (7 : Int32)), .val (.long v8_12), .second, .val (.long v10_38), .second, .val (.long v12_39), .second, .val (.ref b40), .val (.int v15_84)] [(.long v12_39)]))
    refine own_back ?_ (fun t k => XS.iload X57.here hx rfl (hb hby at_242) rfl k)
    show own_Go p e below PO (T57.setTop (mkF m 244 #[.val (.int pA), .val (.int pB), .val (.int pC), .val (.long jR), .second, .val (.int v5_1), .val (.int v6_2), .val (.int (7 : Int32)), .val (.long v8_12), .second, .val (.long v10_38), .second, .val (.long v12_39), .second, .val (.ref b40), .val (.int v15_84)] [(.int (7 : Int32)), (.long v12_39)]))
    obtain ⟨_, _, ⟨T85, L85, k85, n85⟩, -, X85, ⟨Lc85, hQ85, l85, y85, z85⟩, st85⟩ := Jvm.LawKit.callS X57 hx (y := (⟨"com/example/fillwire/fillwire/wire/Words", "decimal", "(JI)I"⟩ : MethodName)) hown (mvT hZ (hw _ (List.mem_of_getElem? (i := 11) rfl))) (mvT hZ (hw _ (List.mem_of_getElem? (i := 12) rfl))) (mvT hZ (hw _ (List.mem_of_getElem? (i := 13) rfl))) (mvT hZ (hw _ (List.mem_of_getElem? (i := 14) rfl))) (by decide) (backOf (W := 0) (rm2 l Z a0 hw [] v12_39 (7 : Int32)  h57 n0 Zh57 (own_sta_keep S_Z K57 all0)) hZ (hw _ (List.mem_of_getElem? (i := 14) rfl)) (hw _ (List.mem_of_getElem? (i := 13) rfl)) (by decide) (by decide)) (g := (mkF m 244 #[.val (.int pA), .val (.int pB), .val (.int pC), .val (.long jR), .second, .val (.int v5_1), .val (.int v6_2), .val (.int (7 : Int32)), .val (.long v8_12), .second, .val (.long v10_38), .second, .val (.long v12_39), .second, .val (.ref b40), .val (.int v15_84)] [(.int (7 : Int32)), (.long v12_39)])) rfl (by rw [hml]; rfl) (argsL := [(.long v12_39), (.int (7 : Int32))]) (rest := []) (lenOf pd_1 rfl) rfl (by show 2 * 0 + _ ≤ _; exact Nat.le_of_eq rfl) (hb hby at_244) (fun _ _ => ⟨rfl, e57, (by decide : 1 + 0 ≤ _), (by decide : 9 + 0 ≤ _)⟩)
    dsimp only [Pt.U, Pt.locs, Pt.cells, Pt.slots] at X85 l85 y85 z85 st85 hQ85
    subst l85 y85 z85
    obtain ⟨rfl, N85q, e85⟩ := hQ85
    have N85 := Fr.app N57 N85q
    refine own_back ?_ st85
    show own_Go p e below PO (T85.setTop (mkF m 247 #[.val (.int pA), .val (.int pB), .val (.int pC), .val (.long jR), .second, .val (.int v5_1), .val (.int v6_2), .val (.int (7 : Int32)), .val (.long v8_12), .second, .val (.long v10_38), .second, .val (.long v12_39), .second, .val (.ref b40), .val (.int v15_84)] [(.int (own_dec v12_39 (7 : Int32)))]))
    refine own_gen (A := Int32) (own_dec v12_39 (7 : Int32)) (fun r244_86 => own_Go p e below PO (T85.setTop (mkF m 247 #[.val (.int pA), .val (.int pB), .val (.int pC), .val (.long jR), .second, .val (.int v5_1), .val (.int v6_2), .val (.int (7 : Int32)), .val (.long v8_12), .second, .val (.long v10_38), .second, .val (.long v12_39), .second, .val (.ref b40), .val (.int v15_84)] [(.int r244_86)]))) ?_
    intro r244_86 h_r244_86
    show own_Go p e below PO (T85.setTop (mkF m 247 #[.val (.int pA), .val (.int pB), .val (.int pC), .val (.long jR), .second, .val (.int v5_1), .val (.int v6_2), .val (.int (7 : Int32)), .val (.long v8_12), .second, .val (.long v10_38), .second, .val (.long v12_39), .second, .val (.ref b40), .val (.int v15_84)] [(.int r244_86)]))
    refine own_back ?_ (fun t k => XS.iload X85.here hx rfl (hb hby at_247) rfl k)
    show own_Go p e below PO (T85.setTop (mkF m 249 #[.val (.int pA), .val (.int pB), .val (.int pC), .val (.long jR), .second, .val (.int v5_1), .val (.int v6_2), .val (.int (7 : Int32)), .val (.long v8_12), .second, .val (.long v10_38), .second, .val (.long v12_39), .second, .val (.ref b40), .val (.int v15_84)] [(.int v15_84), (.int r244_86)]))
    have hd249_87 : r244_86 = v15_84 := by rw [h_r244_86, h_v15_84]; exact own_main_7 h_v5_1 h_v6_2 h_v8_12 (by rw [h_v12_39, h_v10_38])
    refine own_back ?_ (fun t k => XS.icmpNo X85.here hx rfl (hb hby at_249) rfl (teq hd249_87).2 k)
    show own_Go p e below PO (T85.setTop (mkF m 252 #[.val (.int pA), .val (.int pB), .val (.int pC), .val (.long jR), .second, .val (.int v5_1), .val (.int v6_2), .val (.int (7 : Int32)), .val (.long v8_12), .second, .val (.long v10_38), .second, .val (.long v12_39), .second, .val (.ref b40), .val (.int v15_84)] []))
    refine own_back ?_ (fun t k => XS.iconst X85.here hx rfl (hb hby at_252) k)
    show own_Go p e below PO (T85.setTop (mkF m 253 #[.val (.int pA), .val (.int pB), .val (.int pC), .val (.long jR), .second, .val (.int v5_1), .val (.int v6_2), .val (.int (7 : Int32)), .val (.long v8_12), .second, .val (.long v10_38), .second, .val (.long v12_39), .second, .val (.ref b40), .val (.int v15_84)] [(.int (1 : Int32))]))
    refine own_back ?_ (fun t k => XS.goto X85.here hx rfl (pc0 := 253) (pc' := 257) rfl (hb hby at_253) (by decide) (by decide) k)
    show own_Go p e below PO (T85.setTop (mkF m 257 #[.val (.int pA), .val (.int pB), .val (.int pC), .val (.long jR), .second, .val (.int v5_1), .val (.int v6_2), .val (.int (7 : Int32)), .val (.long v8_12), .second, .val (.long v10_38), .second, .val (.long v12_39), .second, .val (.ref b40), .val (.int v15_84)] [(.int (1 : Int32))]))
    refine own_retN X85 hx (t := .boolean) (rest := []) Bd.returns (by decide) (by simp) (hb hby at_257) e85 (Bd.notSynchronized) ?_ (by decide) (by decide)
    exact ⟨rfl, N85⟩
  · exact absurd q59 hc129_13
set_option maxRecDepth 65536 in
set_option maxHeartbeats 40000000 in
theorem comes_1 {Post : Tables → Env → Array Value → State → Outcome → State → Prop} (hpost : ∀ tb e args s v u, (limb_1_1.after args s (.returned v) u = true ∧ limb_1_2.after args s (.returned v) u = true ∧ True) → FrameEnd s (.returned v) u (Jvm.fieldLocs frame_1_writes args s ++ Jvm.arrayLocs frame_1_arrays args s ++ Jvm.staticLocs frame_1_statics s) 16 128 → Post tb e args s (.returned v) u) :
    ArmFor flags0 classFile x code maxLocals ret World_1 tables_1 room_1 Calls_1 rest_1 Pre_1 Post := by
  intro l hfl _ _ p e ha hc hk s m args below hf hA hF happ hP
  obtain ⟨hcalls, hrest, hpre⟩ := hP
  obtain ⟨-, -, -, hnamed, -, -, -, hat⟩ := (Spec.applies_iff hf).mp happ
  obtain ⟨hg, hn⟩ := and_e (Cond.before_iff.mp (show (Jvm.Cond.and given_1 narrow_1).before args s = true from hpre))
  obtain ⟨gc, g0⟩ := and_e hg
  obtain ⟨ga0, g1⟩ := and_e g0
  obtain ⟨ga1, g2⟩ := and_e g1
  obtain ⟨ga2, g3⟩ := and_e g2
  obtain ⟨w0, w1, w2, w3, rfl⟩ : ∃ w0 w1 w2 w3 : Value, args = #[w0, w1, w2, w3] := by
    have hs : args.size = 4 := by simpa [Cond.value, given_1] using gc
    obtain ⟨L⟩ := args
    match L, hs with
    | [w0, w1, w2, w3], _ => exact ⟨w0, w1, w2, w3, rfl⟩
  have hw := fun d (hd : d ∈ tables_1) => atoms_spec (ws := Jvm.Cond.code x code maxLocals ret :: tables_1) hat d (List.mem_cons_of_mem _ hd)
  obtain ⟨i0, ei0⟩ := is_v ga0
  obtain rfl : w0 = (.int i0) := Option.some.inj ei0
  obtain ⟨i1, ei1⟩ := is_v ga1
  obtain rfl : w1 = (.int i1) := Option.some.inj ei1
  obtain ⟨i2, ei2⟩ := is_v ga2
  obtain rfl : w2 = (.int i2) := Option.some.inj ei2
  obtain ⟨i3, ei3⟩ := isL_v g3
  obtain rfl : w3 = (.long i3) := Option.some.inj ei3
  have S_ZEROS := Sta.start (own_eqJ hn) (Or.inr ⟨(hw _ (List.mem_of_getElem? (i := 13) rfl)), (hw _ (List.mem_of_getElem? (i := 16) rfl))⟩)
  obtain ⟨n, o, h1, h2, h3, _, L, rfl, ⟨rfl, N⟩, hq⟩ := rm0 l s _ hw tables_1 i0 i1 i2 i3  s.heap s.heap.size (Nat.le_refl _) S_ZEROS p e ha hc hk s m _ below hf ((Spec.applies_iff_loose hf).mp happ).1 ⟨rfl, State.Warmed39.refl s, rfl⟩ trivial
  refine ⟨n, _, h1, h2, h3, hpost _ _ _ _ _ _ ⟨Cond.after_iff.mpr rfl, Cond.after_iff.mpr (eq_i res_at (Term.int_eval (1)) rfl), trivial⟩ ⟨hq.1, hq.2.1, (hq.2.2.sift fun y hy => Or.inr (N y hy)).mono (by decide) (by decide)⟩⟩
theorem main_1_1 : Claimed_1_1 := comes_1 fun _ _ _ _ _ _ h hF => ⟨h.1, hF⟩
theorem main_1_2 : Claimed_1_2 := comes_1 fun _ _ _ _ _ _ h hF => ⟨h.2.1, hF⟩
end Jvm.Pilot.@@N@@
namespace Jvm.Pilot.@@N@@
open Jvm Jvm.ClassFile Sem Op Lib Jvm.Free Jvm.Stand Jvm.Pilot.@@N@@.Jvm.D
/-! MADE BY PROGRAM (witnessworld.py) out of the Statement's table words and the real class files: 9 classes; the members and pool entries that the words name. The judged class is class 1, her method 2. -/
namespace start1
open Jvm.ClassFile
def u (s : String) : CpInfo := .utf8 (stringToUtf16 s)
/-- a pool by its gaps: so many unusable entries, then the entry; so many at the end -/
def gap : Nat → List CpInfo → List CpInfo
  | 0, r => r
  | n + 1, r => .unusable :: gap n r
def poolList (es : List (Nat × CpInfo)) (last : Nat) : List CpInfo := es.foldr (fun e r => gap e.1 (e.2 :: r)) (gap last [])
def pool (es : List (Nat × CpInfo)) (last : Nat) : Array CpInfo := ⟨poolList es last⟩
def fileOf (pool : Array CpInfo) (this : Nat) (attrs : Array Attribute := #[]) (ms : Array MethodInfo := #[]) (fl : Nat := 33) (sup : Nat := 0) (ifs : Array Nat := #[]) (fds : Array FieldInfo := #[]) : ClassFile where
  minorVersion := 0
  majorVersion := 65
  constantPool := pool
  accessFlags := fl
  thisClass := this
  superClass := sup
  interfaces := ifs
  fields := fds
  methods := ms
  attributes := attrs
def plain (name : String) (sup : Option ClassId) : Class where
  name := name
  kind := .ordinary
  loader := none
  accessFlags := 33
  super := sup
  interfaces := #[]
  cf := none
  fields := #[]
  methods := #[]
  instanceTypes := #[]
  staticTypes := #[]
  resolved := #[]
  callSites := []
  init := .initialized
  statics := none
  mirror := none

def pool0 : Array CpInfo := pool [(5, u "<init>"), (0, u "()V"), (1, .class_ 10), (1, u "java/lang/Object")] 113

def k0m0 : Method := { name := "<init>", desc := "()V", sig := { parameters := [], returnType := none }, accessFlags := 1, code := none }
/-- java/lang/Object -/
def k0 : Class := { plain "java/lang/Object" none with
  accessFlags := 33
  interfaces := #[]
  cf := some (fileOf pool0 8 #[] #[{ accessFlags := 1, nameIndex := 5, descriptorIndex := 6, attributes := #[] }] 33 0 #[] #[])
  fields := #[]
  methods := #[k0m0]
  instanceTypes := #[]
  staticTypes := #[]
  resolved := Array.replicate 124 none
  statics := none }

def pool1 : Array CpInfo := pool [(2, .class_ 4), (1, u "java/lang/Object"), (0, u "<init>"), (0, u "()V"), (0, .integer 2147483647), (0, .methodref 9 10), (0, .class_ 11), (0, .nameAndType 12 13), (0, u "com/example/fillwire/fillwire/wire/WordsDecimalPinLaw"), (0, u "digitByte"), (0, u "(II)J"), (0, .long 18446744073709551615), (1, .integer 100000), (0, .integer 1000000), (0, .integer 10000000), (0, .integer 100000000), (0, .methodref 21 22), (0, .class_ 23), (0, .nameAndType 24 25), (0, u "com/example/fillwire/fillwire/wire/Words"), (0, u "decimal"), (0, u "(JI)I"), (2, u "law"), (0, u "(IIIJ)Z")] 5

def k1m0 : Method := { name := "<init>", desc := "()V", sig := { parameters := [], returnType := none }, accessFlags := 1, code := none }
def k1c1 : Code := { maxStack := 4, maxLocals := 2, code := method_2_code, exceptionTable := #[], attributes := #[] }
def k1m1 : Method := { name := "digitByte", desc := "(II)J", sig := { parameters := [.int, .int], returnType := some .long }, accessFlags := 10, code := some k1c1 }
def k1c2 : Code := { maxStack := 8, maxLocals := 16, code := code, exceptionTable := #[], attributes := #[] }
def k1m2 : Method := { name := "law", desc := "(IIIJ)Z", sig := { parameters := [.int, .int, .int, .long], returnType := some .boolean }, accessFlags := 9, code := some k1c2 }
/-- com/example/fillwire/fillwire/wire/WordsDecimalPinLaw -/
def k1 : Class := { plain "com/example/fillwire/fillwire/wire/WordsDecimalPinLaw" (some 0) with
  accessFlags := 49
  interfaces := #[]
  cf := some (fileOf pool1 9 #[] #[{ accessFlags := 1, nameIndex := 5, descriptorIndex := 6, attributes := #[] }, { accessFlags := 10, nameIndex := 12, descriptorIndex := 13, attributes := #[] }, { accessFlags := 9, nameIndex := 28, descriptorIndex := 29, attributes := #[] }] 49 2 #[] #[])
  fields := #[]
  methods := #[k1m0, k1m1, k1m2]
  instanceTypes := #[]
  staticTypes := #[]
  resolved := Array.replicate 35 none
  statics := none }

def pool2 : Array CpInfo := pool [(2, .class_ 4), (1, u "java/lang/Object"), (0, u "<init>"), (0, u "()V"), (0, .class_ 8), (0, u "com/example/fillwire/fillwire/wire/Words"), (16, .fieldref 7 26), (0, .nameAndType 27 28), (0, u "ZEROS"), (0, u "J"), (2, u "PAST_NINE"), (12, .long 10), (1, .long 1095216660735), (1, .long 4294967296000100), (1, .long 42949672960001), (5, u "MARKS"), (1, u "MAX_SUMMED_WORDS"), (0, u "I"), (1, u "ONES"), (0, u "EVERY_OTHER_BYTE"), (0, u "FIRST_BYTE_OF_EACH_HALF"), (13, u "decimal"), (0, u "(JI)I")] 3

def k2m0 : Method := { name := "<init>", desc := "()V", sig := { parameters := [], returnType := none }, accessFlags := 2, code := none }
def k2c1 : Code := { maxStack := 6, maxLocals := 9, code := prog_40_method_11_code, exceptionTable := #[], attributes := #[] }
def k2m1 : Method := { name := "decimal", desc := "(JI)I", sig := { parameters := [.long, .int], returnType := some .int }, accessFlags := 8, code := some k2c1 }
/-- com/example/fillwire/fillwire/wire/Words -/
def k2 : Class := { plain "com/example/fillwire/fillwire/wire/Words" (some 0) with
  accessFlags := 48
  interfaces := #[]
  cf := some (fileOf pool2 7 #[] #[{ accessFlags := 2, nameIndex := 5, descriptorIndex := 6, attributes := #[] }, { accessFlags := 8, nameIndex := 77, descriptorIndex := 78, attributes := #[] }] 48 2 #[] #[{ accessFlags := 24, nameIndex := 56, descriptorIndex := 28, attributes := #[] }, { accessFlags := 24, nameIndex := 58, descriptorIndex := 59, attributes := #[] }, { accessFlags := 26, nameIndex := 61, descriptorIndex := 28, attributes := #[] }, { accessFlags := 26, nameIndex := 27, descriptorIndex := 28, attributes := #[] }, { accessFlags := 26, nameIndex := 31, descriptorIndex := 28, attributes := #[] }, { accessFlags := 26, nameIndex := 62, descriptorIndex := 28, attributes := #[] }, { accessFlags := 26, nameIndex := 63, descriptorIndex := 28, attributes := #[] }])
  fields := #[{ name := "MARKS", type := .long, accessFlags := 24, slot := 0, constantValue := 0 }, { name := "MAX_SUMMED_WORDS", type := .int, accessFlags := 24, slot := 1, constantValue := 0 }, { name := "ONES", type := .long, accessFlags := 26, slot := 2, constantValue := 0 }, { name := "ZEROS", type := .long, accessFlags := 26, slot := 3, constantValue := 0 }, { name := "PAST_NINE", type := .long, accessFlags := 26, slot := 4, constantValue := 0 }, { name := "EVERY_OTHER_BYTE", type := .long, accessFlags := 26, slot := 5, constantValue := 0 }, { name := "FIRST_BYTE_OF_EACH_HALF", type := .long, accessFlags := 26, slot := 6, constantValue := 0 }]
  methods := #[k2m0, k2m1]
  instanceTypes := #[]
  staticTypes := #[.long, .int, .long, .long, .long, .long, .long]
  resolved := Array.replicate 82 none
  statics := some 0 }

def pool3 : Array CpInfo := pool [(1, u "java/lang/Cloneable"), (0, .class_ 1), (0, u "java/lang/Object"), (0, .class_ 3)] 3

/-- java/lang/Cloneable -/
def k3 : Class := { plain "java/lang/Cloneable" (some 0) with
  accessFlags := 1537
  interfaces := #[]
  cf := some (fileOf pool3 2 #[] #[] 1537 4 #[] #[])
  fields := #[]
  methods := #[]
  instanceTypes := #[]
  staticTypes := #[]
  resolved := Array.replicate 8 none
  statics := none }

def pool4 : Array CpInfo := pool [(1, u "java/io/Serializable"), (0, .class_ 1), (0, u "java/lang/Object"), (0, .class_ 3)] 3

/-- java/io/Serializable -/
def k4 : Class := { plain "java/io/Serializable" (some 0) with
  accessFlags := 1537
  interfaces := #[]
  cf := some (fileOf pool4 2 #[] #[] 1537 4 #[] #[])
  fields := #[]
  methods := #[]
  instanceTypes := #[]
  staticTypes := #[]
  resolved := Array.replicate 8 none
  statics := none }

/-- the primitive byte -/
def k5 : Class := { plain "byte" none with kind := .primitive 'B', accessFlags := 0x411 }
/-- [B -/
def k6 : Class := { plain "[B" (some 0) with kind := .array 5 .byte, interfaces := #[3, 4], accessFlags := 1041 }

/-- the primitive int -/
def k7 : Class := { plain "int" none with kind := .primitive 'I', accessFlags := 0x411 }
/-- [I -/
def k8 : Class := { plain "[I" (some 0) with kind := .array 7 .int, interfaces := #[3, 4], accessFlags := 1041 }

def heap : Heap := #[{ cls := 2, slots := #[.long 0, .int 0, .long 0, .long 3472328296227680304, .long 0, .long 0, .long 0], vm := .statics 2 }]
def classes : Array Class := #[k0, k1, k2, k3, k4, k5, k6, k7, k8]
def interned : List (Array UInt16 × Addr) := []
def slotsUsed : Nat := 7
def theMethod : MethodId := ⟨1, 2⟩
def args0 : Array Value := #[.int 5, .int 5, .int 5, .long 5]
def aboutOver (below : List Frame) : State where
  vm := { classes := classes, interned := interned.toArray }
  heap := heap
  slotsUsed := slotsUsed
  threads := #[{ frames := .invoking theMethod args0 :: below }]
def below0 : List Frame := [.native { method := ⟨0, 0⟩, args := #[] }]
def about1 : State := aboutOver below0
def p0 : Program := .bare "" "" ""
def e0 : Env := launch0.env 0 0 0
theorem w_frames : about1.frames = Frame.invoking theMethod args0 :: below0 := rfl
set_option maxRecDepth 65536 in
theorem w_args : argsFit about1.vm theMethod args0 = true := by decide +kernel
set_option maxRecDepth 65536 in
theorem w_heap : heapFits about1 = true := by decide +kernel
set_option maxRecDepth 65536 in
theorem w_runnable : about1.curStatus? = some .runnable := by decide +kernel
set_option maxRecDepth 65536 in
theorem w_alone : about1.alone = true := by decide +kernel
set_option maxRecDepth 65536 in
theorem w_named : about1.methodNamed? x = some theMethod := by decide +kernel
set_option maxRecDepth 65536 in
theorem w_hears : about1.hears theMethod below0 = true := by decide +kernel
set_option maxRecDepth 65536 in
theorem w_ripe : about1.ripe theMethod args0 below0 = true := by decide +kernel
theorem w_running : about1.status = .running := rfl
set_option maxRecDepth 65536 in
theorem w_room : about1.hasRoom e0.platform room_1 = true :=
  launch0.hasRoom_least _ room_1 (by decide +kernel) (by decide +kernel) (by decide +kernel) (by decide +kernel) (by decide +kernel) (by decide +kernel)
theorem allAtoms_all (ts : List Jvm.Cond) (a : Array Jvm.Value) (st : Jvm.State) : (allAtoms ts).before a st = ts.all (fun c => c.before a st) := by
  induction ts with
  | nil => rfl
  | cons c t ih =>
    show (Jvm.Cond.and c (allAtoms t)).before a st = _
    rw [Jvm.Cond.before_and, ih, List.all_cons]
def words1 : List Jvm.Cond := Jvm.Cond.code x code maxLocals ret :: tables_1
/-- a 'code' word, met by the world's own term for the bytes: nothing is compared byte by byte -/
theorem code_word {y : MethodName} {bytes : ByteArray} {mx : Nat} {rt : Option FieldType} {a : Array Value} {s : State} {m : MethodId} {meth : Method} {c : Code} (h1 : s.methodNamed? y = some m) (h2 : s.vm.method? m = some meth) (h3 : meth.code = some c) (h4 : c.code = bytes)
    (h5 : (c.maxLocals == mx && c.exceptionTable.isEmpty && decide (c.maxStack ≤ mostOperands) && decide (meth.sig.returnType = rt) && !meth.locks && decide (parseMethodDescriptor y.desc = some meth.sig)) = true) : (Jvm.Cond.code y bytes mx rt).before a s = true := by
  simp only [Bool.and_eq_true, beq_iff_eq, Bool.not_eq_true', decide_eq_true_eq] at h5
  obtain ⟨⟨⟨⟨⟨g1, g2⟩, g3⟩, g4⟩, g5⟩, g6⟩ := h5
  simp [Cond.before, Cond.holds, Cond.value, h1, h2, h3, h4, g1, g2, g3, g4, g5, g6]
def isCode : Jvm.Cond → Bool
  | .code _ _ _ _ => true
  | _ => false
theorem all_split {L : List Jvm.Cond} {P : Jvm.Cond → Bool} (h1 : L.all (fun c => isCode c || P c) = true) (h2 : ∀ c ∈ L.filter isCode, P c = true) : L.all P = true := by
  refine List.all_eq_true.mpr fun c hc => ?_
  have h := List.all_eq_true.mp h1 c hc
  rcases Bool.eq_false_or_eq_true (isCode c) with hi | hi
  · exact h2 c (List.mem_filter.mpr ⟨hc, hi⟩)
  · simpa [hi] using h
set_option maxRecDepth 65536 in
theorem w_c0 : (Jvm.Cond.code x code maxLocals ret).before args0 about1 = true := code_word (m := ⟨1, 2⟩) (meth := k1m2) (c := k1c2) (by decide +kernel) rfl rfl rfl (by decide +kernel)
set_option maxRecDepth 65536 in
theorem w_c1 : (Jvm.Cond.code ({ cls := "com/example/fillwire/fillwire/wire/WordsDecimalPinLaw", name := "digitByte", desc := "(II)J" } : Jvm.MethodName) method_2_code (2 : Nat) (Option.some Jvm.ClassFile.FieldType.long)).before args0 about1 = true := code_word (m := ⟨1, 1⟩) (meth := k1m1) (c := k1c1) (by decide +kernel) rfl rfl rfl (by decide +kernel)
set_option maxRecDepth 65536 in
theorem w_c2 : (Jvm.Cond.code ({ cls := "com/example/fillwire/fillwire/wire/Words", name := "decimal", desc := "(JI)I" } : Jvm.MethodName) prog_40_method_11_code (9 : Nat) (Option.some Jvm.ClassFile.FieldType.int)).before args0 about1 = true := code_word (m := ⟨2, 1⟩) (meth := k2m1) (c := k2c1) (by decide +kernel) rfl rfl rfl (by decide +kernel)
def codes1 : List Jvm.Cond := [Jvm.Cond.code x code maxLocals ret, Jvm.Cond.code ({ cls := "com/example/fillwire/fillwire/wire/WordsDecimalPinLaw", name := "digitByte", desc := "(II)J" } : Jvm.MethodName) method_2_code (2 : Nat) (Option.some Jvm.ClassFile.FieldType.long), Jvm.Cond.code ({ cls := "com/example/fillwire/fillwire/wire/Words", name := "decimal", desc := "(JI)I" } : Jvm.MethodName) prog_40_method_11_code (9 : Nat) (Option.some Jvm.ClassFile.FieldType.int)]
set_option maxRecDepth 65536 in
theorem codes_eq : words1.filter isCode = codes1 := rfl
theorem w_codes : ∀ c ∈ words1.filter isCode, c.before args0 about1 = true := by
  rw [codes_eq]
  intro c hc
  simp only [codes1, List.mem_cons, List.not_mem_nil, or_false] at hc
  rcases hc with rfl | rfl | rfl
  · exact w_c0
  · exact w_c1
  · exact w_c2
set_option maxRecDepth 65536 in
theorem w_t1 : words1.all (fun c => isCode c || c.before args0 about1) = true := by decide +kernel
theorem w_tables : (allAtoms (Jvm.Cond.code x code maxLocals ret :: tables_1)).before args0 about1 = true := by
  rw [allAtoms_all]
  show words1.all (fun c => c.before args0 about1) = true
  refine all_split ?_ w_codes
  rw [w_t1]
set_option maxRecDepth 65536 in
theorem w_case : (Jvm.Cond.and given_1 narrow_1).before args0 about1 = true := by decide +kernel
theorem w_applies : (headSpec (Jvm.Cond.code x code maxLocals ret :: tables_1) room_1).applies x e0.platform about1 = true :=
  (Spec.applies_iff w_frames).mpr ⟨w_running, w_runnable, w_alone, w_named, w_hears, w_ripe, w_room, w_tables⟩
theorem atStart : AtStart classFile x code maxLocals ret World_1 tables_1 room_1 Calls_1 rest_1 Pre_1 launch0 p0 e0 about1 theMethod args0 below0 :=
  ⟨lists_1, trivial, launch0.admits_env _ _ _, launch0.least_env, fairChoices_fair.cas, fairChoices_fair.clock, w_frames, w_args, w_heap, w_applies, trivial, trivial, w_case⟩
end start1
theorem witness_1 : WitnessClaimed_1 := ⟨start1.p0, start1.e0, start1.about1, start1.theMethod, start1.args0, start1.below0, start1.atStart⟩
end Jvm.Pilot.@@N@@
