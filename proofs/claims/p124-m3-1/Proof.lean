import JvmDerived
import JvmDerived.Pilot.@@N@@Statement
import JvmDerived.Pilot.@@N@@Code
set_option linter.unusedVariables false
set_option linter.unusedSimpArgs false
namespace Jvm.RoadKit
open Sem ClassFile Op Lib Jvm.Stand Jvm.Free Jvm.LawKit
/-! the goal of a walk, seen from where it stands -/
def own_Go (p : Program) (e : Env) (below : List Frame) (PO : Outcome → State → Prop) (U : State) : Prop :=
  ∃ s₂ o, Steps p.tables e below U s₂ ∧ s₂.status = .running ∧ Ended s₂ below o ∧ PO o s₂
def own_PO (s : State) (Q : Option Value → Heap → List Loc → Prop) (C N : Nat) : Outcome → State → Prop :=
  fun o U' => ∃ v L, o = .returned v ∧ Q v U'.heap L ∧ FrameEnd s o U' L C N
theorem own_back {p : Program} {e : Env} {below : List Frame} {PO : Outcome → State → Prop} {U V : State} (h : own_Go p e below PO V)
    (st : ∀ t, Steps p.tables e below V t → Steps p.tables e below U t) : own_Go p e below PO U := by
  obtain ⟨t, o, h1, h2⟩ := h
  exact ⟨t, o, st t h1, h2⟩
theorem own_gen {A : Type} (x : A) (P : A → Prop) (h : ∀ c, c = x → P c) : P x := h x rfl
section New
variable {p : Program} {l : Launch} {e : Env} {R : Room} {s : State} {m : MethodId} {args : Array Value} {below : List Frame} {meth : Method} {c : Code} {T : State} {locs : List Loc} {cells slots : Nat} {h : Heap}
  {Q : Option Value → Heap → List Loc → Prop} {C N : Nat}
theorem own_end (X : Stand p l e R s m args below meth c T locs cells slots) {v : Option Value} {U : State} (hv : meth.sig.returnType = none → v = none) (eT : T.heap = h) (hk : meth.locks = false)
    (st : ∀ fs, (∀ (f : JFrame) (acts : List Action), f.method = m → f.locked = none → f.entered = [] → (doReturn e (T.setTop f) acts v).1 = T.setFrames fs) → Steps p.tables e below U (T.setFrames fs))
    (hQ : Q v h locs) (hc : cells ≤ C) (hn : slots ≤ N) : own_Go p e below (own_PO s Q C N) U := by
  obtain ⟨fs, hr, hrun, hended, hW, hsame⟩ := X.leave (v := v) hv hk
  subst eT
  exact ⟨_, _, st fs hr, hrun, hended, _, _, rfl, hQ, ⟨_, rfl⟩, hW, hsame.mono hc hn⟩
theorem own_retV (X : Stand p l e R s m args below meth c T locs cells slots) (hx : p.tables.exec = Jvm.exec) {pc : Nat} {Ls : Array Slot} (hret : meth.sig.returnType = none) (hd : decode c.code pc = .ok (.return_, 1))
    (eT : T.heap = h) (hk : meth.locks = false) (hQ : Q none h locs) (hc : cells ≤ C) (hn : slots ≤ N) : own_Go p e below (own_PO s Q C N) (T.setTop (mkF m pc Ls [])) :=
  own_end X (fun _ => rfl) eT hk (fun fs hr => X.returnOut hx hret hd hr) hQ hc hn
theorem own_retI (X : Stand p l e R s m args below meth c T locs cells slots) (hx : p.tables.exec = Jvm.exec) {pc : Nat} {Ls : Array Slot} {z : Int32} {rest : List Value} (hret : meth.sig.returnType = some .int) (hd : decode c.code pc = .ok (.ireturn, 1))
    (eT : T.heap = h) (hk : meth.locks = false) (hQ : Q (some (.int z)) h locs) (hc : cells ≤ C) (hn : slots ≤ N) : own_Go p e below (own_PO s Q C N) (T.setTop (mkF m pc Ls (.int z :: rest))) :=
  own_end X (fun q => by rw [hret] at q; cases q) eT hk (fun fs hr => retOut X hx hret rfl (Or.inl ⟨rfl, Or.inl rfl, z, rfl⟩) hd hr) hQ hc hn
theorem own_retN (X : Stand p l e R s m args below meth c T locs cells slots) (hx : p.tables.exec = Jvm.exec) {pc : Nat} {Ls : Array Slot} {z : Int32} {t : FieldType} {rest : List Value} (hret : meth.sig.returnType = some t) (hz : nar t z = z) (ht : t = .boolean ∨ t = .byte ∨ t = .char ∨ t = .short) (hd : decode c.code pc = .ok (.ireturn, 1))
    (eT : T.heap = h) (hk : meth.locks = false) (hQ : Q (some (.int z)) h locs) (hc : cells ≤ C) (hn : slots ≤ N) : own_Go p e below (own_PO s Q C N) (T.setTop (mkF m pc Ls (.int z :: rest))) :=
  own_end X (fun q => by rw [hret] at q; cases q) eT hk (fun fs hr => retN X hx (t := t) hret ht hd (by rw [hz]; exact hr)) hQ hc hn
theorem own_retJ (X : Stand p l e R s m args below meth c T locs cells slots) (hx : p.tables.exec = Jvm.exec) {pc : Nat} {Ls : Array Slot} {z : Int64} {rest : List Value} (hret : meth.sig.returnType = some .long) (hd : decode c.code pc = .ok (.lreturn, 1))
    (eT : T.heap = h) (hk : meth.locks = false) (hQ : Q (some (.long z)) h locs) (hc : cells ≤ C) (hn : slots ≤ N) : own_Go p e below (own_PO s Q C N) (T.setTop (mkF m pc Ls (.long z :: rest))) :=
  own_end X (fun q => by rw [hret] at q; cases q) eT hk (fun fs hr => retOut X hx hret rfl (Or.inr (Or.inl ⟨rfl, rfl, z, rfl⟩)) hd hr) hQ hc hn
theorem own_retD (X : Stand p l e R s m args below meth c T locs cells slots) (hx : p.tables.exec = Jvm.exec) {pc : Nat} {Ls : Array Slot} {z : UInt64} {rest : List Value} (hret : meth.sig.returnType = some .double) (hd : decode c.code pc = .ok (.dreturn, 1))
    (eT : T.heap = h) (hk : meth.locks = false) (hQ : Q (some (.double z)) h locs) (hc : cells ≤ C) (hn : slots ≤ N) : own_Go p e below (own_PO s Q C N) (T.setTop (mkF m pc Ls (.double z :: rest))) :=
  own_end X (fun q => by rw [hret] at q; cases q) eT hk (fun fs hr => retOut X hx hret rfl (Or.inr (Or.inr (Or.inl ⟨rfl, rfl, z, rfl⟩))) hd hr) hQ hc hn
theorem own_retA (X : Stand p l e R s m args below meth c T locs cells slots) (hx : p.tables.exec = Jvm.exec) {pc : Nat} {Ls : Array Slot} {w : Value} {t : FieldType} {rest : List Value} (hret : meth.sig.returnType = some t) (ht : t.isReference = true) (hw : w.isRef = true) (hd : decode c.code pc = .ok (.areturn, 1))
    (eT : T.heap = h) (hk : meth.locks = false) (hQ : Q (some w) h locs) (hc : cells ≤ C) (hn : slots ≤ N) : own_Go p e below (own_PO s Q C N) (T.setTop (mkF m pc Ls (w :: rest))) :=
  own_end X (fun q => by rw [hret] at q; cases q) eT hk (fun fs hr => retOut X hx hret (by cases t <;> first | (cases ht; done) | (cases w <;> first | (cases hw; done) | rfl)) (Or.inr (Or.inr (Or.inr (Or.inr ⟨rfl, ht, hw⟩)))) hd hr) hQ hc hn
end New
end Jvm.RoadKit
namespace Jvm.RoadKit
open Sem ClassFile Op Lib Jvm.Stand Jvm.Free Jvm.LawKit
theorem own_eqI {args : Array Value} {first s : State} {o : Option Outcome} {idx : List Nat} {a : Term} {k : Int32} (h : (Cond.eq a (.int k)).value args first o s idx = some true) : a.eval args first o idx s = some (.int k) := by
  obtain ⟨x, y, h1, h2, h3, -⟩ := cmp_v (Or.inl h)
  cases h2
  cases x <;> simp [Kin, Value.isRef] at h3
  rename_i z
  have q : (Cond.eq a (.int k)).value args first o s idx = some (decide (z = k)) := Cond.eq_ints h1 rfl
  rw [q] at h
  rw [h1, of_decide_eq_true (Option.some.inj h)]
theorem own_eqJ {args : Array Value} {first s : State} {o : Option Outcome} {idx : List Nat} {a : Term} {k : Int64} (h : (Cond.eq a (.long k)).value args first o s idx = some true) : a.eval args first o idx s = some (.long k) := by
  obtain ⟨x, y, h1, h2, h3, -⟩ := cmp_v (Or.inl h)
  cases h2
  cases x <;> simp [Kin, Value.isRef] at h3
  rename_i z
  have q : (Cond.eq a (.long k)).value args first o s idx = some (decide (z = k)) := eq_L h1 rfl
  rw [q] at h
  rw [h1, of_decide_eq_true (Option.some.inj h)]
theorem own_fldI {args : Array Value} {s : State} {t : Term} {a : Addr} {C n d : String} {k : Int32} (ev : t.eval args s none [] s = some (.ref a)) (h : (Cond.eq (.field t C n d) (.int k)).value args s none s [] = some true) : Fld s s.heap a C n d (.int k) :=
  Fld.start ((fld_at ev).symm.trans (own_eqI h))
end Jvm.RoadKit
namespace Jvm.RoadKit
open Sem ClassFile Op Lib Jvm.Stand Jvm.Free Jvm.LawKit
section Heap
variable {p : Program} {l : Launch} {e : Env} {R : Room} {s : State} {m : MethodId} {args : Array Value} {below : List Frame} {meth : Method} {c : Code} {T : State} {locs : List Loc} {cells slots : Nat} {h h' : Heap} {Z : State}
  {a : Addr} {k : ClassId} {n : Int32} {vs : List Value} {dv : Value} {ws ws' : List Addr} {C : String}
theorem own_keep_more (K : Keep h h' ws) (q : ∀ x ∈ ws, x ∈ ws') : Keep h h' ws' := ⟨K.1, fun x c hx r => K.2.1 x c hx fun z => r (q x z), K.2.2⟩
theorem own_sta_keep {C n d : String} {v : Value} (F : Sta Z h C n d v) (K : Keep h h' ws) (q : ∀ x ∈ ws, ∀ cell : Cell, h[x]? = some cell → cell.vm.isStatics = false) : Sta Z h' C n d v := by
  obtain ⟨cf, i, kk, f, st, cell, h1, h2, h3, h4, h5, h6, h7⟩ := F
  exact ⟨cf, i, kk, f, st, cell, h1, h2, h3, h4, K.2.1 st cell h5 (fun z => by rw [q st z cell h5] at h6; cases h6), h6, h7⟩
/-- a private method is selected of itself: the class is no interface, as another 'selects' word says -/
theorem own_selpriv {s : State} {args args' : Array Value} {y z w : MethodName} (hs : (Cond.selects y.cls z w).before args' s = true) (hpriv : s.PrivateAt y) (hinst : (Cond.instanceMethod y).before args s = true) (hy : y.cls ≠ "java/lang/invoke/MethodHandle" ∧ y.cls ≠ "java/lang/invoke/VarHandle") (hw : w.cls = y.cls := by rfl) :
    (Cond.selects y.cls y y).before args s = true := by
  obtain ⟨c2, r2, m2, q1, q2, q3, q4, kP, hkP, hkPi⟩ := Cond.selects_spec hs
  have hc := findClass_of_methodNamed q3
  rw [hw] at hc
  exact selects_self_of_private hc hkP hkPi hpriv hinst hy
theorem own_stI (X : Stand p l e R s m args below meth c T locs cells slots) (hx : p.tables.exec = Jvm.exec) (hZ : Z.Warmed39 s.vm) (eT : T.heap = h) (A : Arv Z h a k .int n vs dv) {j x : Int32} (hj : ¬ j < 0 ∧ j < n) {i : Nat} (hi : j.toNatClampNeg = i) (hl : i < vs.length) {g : JFrame} (hg : g.method = m) {rest : List Value} (hs : g.stack = .int x :: .int j :: .ref a :: rest) (hd : decode c.code g.pc = .ok (.iastore, 1)) :
    ∃ T' h', Stand p l e R s m args below meth c T' (locs ++ [⟨a, j.toNatClampNeg⟩]) cells slots ∧ T'.heap = h' ∧ Wr h h' a j.toNatClampNeg (.int x) ∧ Arv Z h' a k .int n (vs.set i (.int x)) dv ∧ ∀ target, Steps p.tables e below (T'.setTop { g with pc := g.pc + 1, stack := rest }) target → Steps p.tables e below (T.setTop g) target := by
  obtain ⟨cl, Ar, q, S, N, H, G⟩ := A
  obtain ⟨T', h', X', e', W, st⟩ := stI X hx hZ eT Ar (inb_of S hj) hg hs hd
  exact ⟨T', h', X', e', W, Arv.set Ar q S N H G rfl W i hi hl, st⟩
theorem own_stJ (X : Stand p l e R s m args below meth c T locs cells slots) (hx : p.tables.exec = Jvm.exec) (hZ : Z.Warmed39 s.vm) (eT : T.heap = h) (A : Arv Z h a k .long n vs dv) {j : Int32} {x : Int64} (hj : ¬ j < 0 ∧ j < n) {i : Nat} (hi : j.toNatClampNeg = i) (hl : i < vs.length) {g : JFrame} (hg : g.method = m) {rest : List Value} (hs : g.stack = .long x :: .int j :: .ref a :: rest) (hd : decode c.code g.pc = .ok (.lastore, 1)) :
    ∃ T' h', Stand p l e R s m args below meth c T' (locs ++ [⟨a, j.toNatClampNeg⟩]) cells slots ∧ T'.heap = h' ∧ Wr h h' a j.toNatClampNeg (.long x) ∧ Arv Z h' a k .long n (vs.set i (.long x)) dv ∧ ∀ target, Steps p.tables e below (T'.setTop { g with pc := g.pc + 1, stack := rest }) target → Steps p.tables e below (T.setTop g) target := by
  obtain ⟨cl, Ar, q, S, N, H, G⟩ := A
  obtain ⟨T', h', X', e', W, st⟩ := stJ X hx hZ eT Ar (inb_of S hj) hg hs hd
  exact ⟨T', h', X', e', W, Arv.set Ar q S N H G rfl W i hi hl, st⟩
theorem own_stD (X : Stand p l e R s m args below meth c T locs cells slots) (hx : p.tables.exec = Jvm.exec) (hZ : Z.Warmed39 s.vm) (eT : T.heap = h) (A : Arv Z h a k .double n vs dv) {j : Int32} {x : UInt64} (hj : ¬ j < 0 ∧ j < n) {i : Nat} (hi : j.toNatClampNeg = i) (hl : i < vs.length) {g : JFrame} (hg : g.method = m) {rest : List Value} (hs : g.stack = .double x :: .int j :: .ref a :: rest) (hd : decode c.code g.pc = .ok (.dastore, 1)) :
    ∃ T' h', Stand p l e R s m args below meth c T' (locs ++ [⟨a, j.toNatClampNeg⟩]) cells slots ∧ T'.heap = h' ∧ Wr h h' a j.toNatClampNeg (.double x) ∧ Arv Z h' a k .double n (vs.set i (.double x)) dv ∧ ∀ target, Steps p.tables e below (T'.setTop { g with pc := g.pc + 1, stack := rest }) target → Steps p.tables e below (T.setTop g) target := by
  obtain ⟨cl, Ar, q, S, N, H, G⟩ := A
  obtain ⟨T', h', X', e', W, st⟩ := stD X hx hZ eT Ar (inb_of S hj) hg hs hd
  exact ⟨T', h', X', e', W, Arv.set Ar q S N H G rfl W i hi hl, st⟩
theorem own_stB (X : Stand p l e R s m args below meth c T locs cells slots) (hx : p.tables.exec = Jvm.exec) (hZ : Z.Warmed39 s.vm) (eT : T.heap = h) (A : Arv Z h a k .byte n vs dv) {j x : Int32} (hj : ¬ j < 0 ∧ j < n) {i : Nat} (hi : j.toNatClampNeg = i) (hl : i < vs.length) {g : JFrame} (hg : g.method = m) {rest : List Value} (hs : g.stack = .int x :: .int j :: .ref a :: rest) (hd : decode c.code g.pc = .ok (.bastore, 1)) :
    ∃ T' h', Stand p l e R s m args below meth c T' (locs ++ [⟨a, j.toNatClampNeg⟩]) cells slots ∧ T'.heap = h' ∧ Wr h h' a j.toNatClampNeg (.int (nar .byte x)) ∧ Arv Z h' a k .byte n (vs.set i (.int (nar .byte x))) dv ∧ ∀ target, Steps p.tables e below (T'.setTop { g with pc := g.pc + 1, stack := rest }) target → Steps p.tables e below (T.setTop g) target := by
  obtain ⟨cl, Ar, q, S, N, H, G⟩ := A
  obtain ⟨T', h', X', e', W, st⟩ := stB X hx hZ eT Ar (inb_of S hj) hg hs hd
  exact ⟨T', h', X', e', W, Arv.set Ar q S N H G (fits_nar_byte x) W i hi hl, st⟩
theorem own_stZ (X : Stand p l e R s m args below meth c T locs cells slots) (hx : p.tables.exec = Jvm.exec) (hZ : Z.Warmed39 s.vm) (eT : T.heap = h) (A : Arv Z h a k .boolean n vs dv) {j x : Int32} (hj : ¬ j < 0 ∧ j < n) {i : Nat} (hi : j.toNatClampNeg = i) (hl : i < vs.length) {g : JFrame} (hg : g.method = m) {rest : List Value} (hs : g.stack = .int x :: .int j :: .ref a :: rest) (hd : decode c.code g.pc = .ok (.bastore, 1)) :
    ∃ T' h', Stand p l e R s m args below meth c T' (locs ++ [⟨a, j.toNatClampNeg⟩]) cells slots ∧ T'.heap = h' ∧ Wr h h' a j.toNatClampNeg (.int (nar .boolean x)) ∧ Arv Z h' a k .boolean n (vs.set i (.int (nar .boolean x))) dv ∧ ∀ target, Steps p.tables e below (T'.setTop { g with pc := g.pc + 1, stack := rest }) target → Steps p.tables e below (T.setTop g) target := by
  obtain ⟨cl, Ar, q, S, N, H, G⟩ := A
  obtain ⟨T', h', X', e', W, st⟩ := stZ X hx hZ eT Ar (inb_of S hj) hg hs hd
  exact ⟨T', h', X', e', W, Arv.set Ar q S N H G (fits_nar_bool x) W i hi hl, st⟩
theorem own_stC (X : Stand p l e R s m args below meth c T locs cells slots) (hx : p.tables.exec = Jvm.exec) (hZ : Z.Warmed39 s.vm) (eT : T.heap = h) (A : Arv Z h a k .char n vs dv) {j x : Int32} (hj : ¬ j < 0 ∧ j < n) {i : Nat} (hi : j.toNatClampNeg = i) (hl : i < vs.length) {g : JFrame} (hg : g.method = m) {rest : List Value} (hs : g.stack = .int x :: .int j :: .ref a :: rest) (hd : decode c.code g.pc = .ok (.castore, 1)) :
    ∃ T' h', Stand p l e R s m args below meth c T' (locs ++ [⟨a, j.toNatClampNeg⟩]) cells slots ∧ T'.heap = h' ∧ Wr h h' a j.toNatClampNeg (.int (nar .char x)) ∧ Arv Z h' a k .char n (vs.set i (.int (nar .char x))) dv ∧ ∀ target, Steps p.tables e below (T'.setTop { g with pc := g.pc + 1, stack := rest }) target → Steps p.tables e below (T.setTop g) target := by
  obtain ⟨cl, Ar, q, S, N, H, G⟩ := A
  obtain ⟨T', h', X', e', W, st⟩ := stC X hx hZ eT Ar (inb_of S hj) hg hs hd
  exact ⟨T', h', X', e', W, Arv.set Ar q S N H G (fits_nar_char x) W i hi hl, st⟩
theorem own_stR (X : Stand p l e R s m args below meth c T locs cells slots) (hx : p.tables.exec = Jvm.exec) (hZ : Z.Warmed39 s.vm) (eT : T.heap = h) (A : Arv Z h a k (.object C) n vs dv) (O : Ovr Z k C) {y : Addr} (I : Ins Z h y C true) {j : Int32} (hj : ¬ j < 0 ∧ j < n) {i : Nat} (hi : j.toNatClampNeg = i) (hl : i < vs.length) {g : JFrame} (hg : g.method = m) {rest : List Value} (hs : g.stack = .ref y :: .int j :: .ref a :: rest) (hd : decode c.code g.pc = .ok (.aastore, 1)) :
    ∃ T' h', Stand p l e R s m args below meth c T' (locs ++ [⟨a, j.toNatClampNeg⟩]) cells slots ∧ T'.heap = h' ∧ Wr h h' a j.toNatClampNeg (.ref y) ∧ Arv Z h' a k (.object C) n (vs.set i (.ref y)) dv ∧ ∀ target, Steps p.tables e below (T'.setTop { g with pc := g.pc + 1, stack := rest }) target → Steps p.tables e below (T.setTop g) target := by
  obtain ⟨cl, Ar, q, S, N, H, G⟩ := A
  obtain ⟨T', h', X', e', W, st⟩ := stR X hx hZ eT Ar (inb_of S hj) rfl (Sto.ofV Ar q O I) hg hs hd
  exact ⟨T', h', X', e', W, Arv.set Ar q S N H G rfl W i hi hl, st⟩
theorem own_ldI (X : Stand p l e R s m args below meth c T locs cells slots) (hx : p.tables.exec = Jvm.exec) (hZ : Z.Warmed39 s.vm) (eT : T.heap = h) (A : Arv Z h a k .int n vs dv) {j : Int32} {v : Value} (hj : ¬ j < 0 ∧ j < n) (hv : vs.getD j.toNatClampNeg dv = v) {g : JFrame} (hg : g.method = m) {rest : List Value} (hs : g.stack = .int j :: .ref a :: rest) (hd : decode c.code g.pc = .ok (.iaload, 1)) :
    ∀ target, Steps p.tables e below (T.setTop { g with pc := g.pc + 1, stack := v :: rest }) target → Steps p.tables e below (T.setTop g) target := by
  obtain ⟨cl, Ar, q, S, N, H, G⟩ := A
  exact fun t k => X.iaload hx (by rw [eT]; exact Ar.1) (State.isArrayOf_alike hZ.alike Ar.2.1) Ar.2.2 (inb_of S hj) (H.at (inb_of S hj) hv) hg hs hd t k
theorem own_ldJ (X : Stand p l e R s m args below meth c T locs cells slots) (hx : p.tables.exec = Jvm.exec) (hZ : Z.Warmed39 s.vm) (eT : T.heap = h) (A : Arv Z h a k .long n vs dv) {j : Int32} {v : Value} (hj : ¬ j < 0 ∧ j < n) (hv : vs.getD j.toNatClampNeg dv = v) {g : JFrame} (hg : g.method = m) {rest : List Value} (hs : g.stack = .int j :: .ref a :: rest) (hd : decode c.code g.pc = .ok (.laload, 1)) :
    ∀ target, Steps p.tables e below (T.setTop { g with pc := g.pc + 1, stack := v :: rest }) target → Steps p.tables e below (T.setTop g) target := by
  obtain ⟨cl, Ar, q, S, N, H, G⟩ := A
  exact fun t k => X.laload hx (by rw [eT]; exact Ar.1) (State.isArrayOf_alike hZ.alike Ar.2.1) Ar.2.2 (inb_of S hj) (H.at (inb_of S hj) hv) hg hs hd t k
theorem own_ldC (X : Stand p l e R s m args below meth c T locs cells slots) (hx : p.tables.exec = Jvm.exec) (hZ : Z.Warmed39 s.vm) (eT : T.heap = h) (A : Arv Z h a k .char n vs dv) {j : Int32} {v : Value} (hj : ¬ j < 0 ∧ j < n) (hv : vs.getD j.toNatClampNeg dv = v) {g : JFrame} (hg : g.method = m) {rest : List Value} (hs : g.stack = .int j :: .ref a :: rest) (hd : decode c.code g.pc = .ok (.caload, 1)) :
    ∀ target, Steps p.tables e below (T.setTop { g with pc := g.pc + 1, stack := v :: rest }) target → Steps p.tables e below (T.setTop g) target := by
  obtain ⟨cl, Ar, q, S, N, H, G⟩ := A
  exact fun t k => X.caload hx (by rw [eT]; exact Ar.1) (State.isArrayOf_alike hZ.alike Ar.2.1) Ar.2.2 (inb_of S hj) (H.at (inb_of S hj) hv) hg hs hd t k
theorem own_ldD (X : Stand p l e R s m args below meth c T locs cells slots) (hx : p.tables.exec = Jvm.exec) (hZ : Z.Warmed39 s.vm) (eT : T.heap = h) (A : Arv Z h a k .double n vs dv) {j : Int32} {v : Value} (hj : ¬ j < 0 ∧ j < n) (hv : vs.getD j.toNatClampNeg dv = v) {g : JFrame} (hg : g.method = m) {rest : List Value} (hs : g.stack = .int j :: .ref a :: rest) (hd : decode c.code g.pc = .ok (.daload, 1)) :
    ∀ target, Steps p.tables e below (T.setTop { g with pc := g.pc + 1, stack := v :: rest }) target → Steps p.tables e below (T.setTop g) target := by
  obtain ⟨cl, Ar, q, S, N, H, G⟩ := A
  exact fun t k => X.daload hx (by rw [eT]; exact Ar.1) (State.isArrayOf_alike hZ.alike Ar.2.1) Ar.2.2 (inb_of S hj) (H.at (inb_of S hj) hv) hg hs hd t k
theorem own_ldB (X : Stand p l e R s m args below meth c T locs cells slots) (hx : p.tables.exec = Jvm.exec) (hZ : Z.Warmed39 s.vm) (eT : T.heap = h) (A : Arv Z h a k .byte n vs dv) {j : Int32} {v : Value} (hj : ¬ j < 0 ∧ j < n) (hv : vs.getD j.toNatClampNeg dv = v) {g : JFrame} (hg : g.method = m) {rest : List Value} (hs : g.stack = .int j :: .ref a :: rest) (hd : decode c.code g.pc = .ok (.baload, 1)) :
    ∀ target, Steps p.tables e below (T.setTop { g with pc := g.pc + 1, stack := v :: rest }) target → Steps p.tables e below (T.setTop g) target := by
  obtain ⟨cl, Ar, q, S, N, H, G⟩ := A
  exact fun t k => X.baloadBytes hx (by rw [eT]; exact Ar.1) (State.isArrayOf_alike hZ.alike Ar.2.1) Ar.2.2 (inb_of S hj) (H.at (inb_of S hj) hv) hg hs hd t k
theorem own_ldR (X : Stand p l e R s m args below meth c T locs cells slots) (hx : p.tables.exec = Jvm.exec) (hZ : Z.Warmed39 s.vm) (eT : T.heap = h) {ty : FieldType} (A : Arv Z h a k ty n vs dv) (hty : ty.isReference = true) {j : Int32} {v : Value} (hj : ¬ j < 0 ∧ j < n) (hv : vs.getD j.toNatClampNeg dv = v) {g : JFrame} (hg : g.method = m) {rest : List Value} (hs : g.stack = .int j :: .ref a :: rest) (hd : decode c.code g.pc = .ok (.aaload, 1)) :
    ∀ target, Steps p.tables e below (T.setTop { g with pc := g.pc + 1, stack := v :: rest }) target → Steps p.tables e below (T.setTop g) target := by
  obtain ⟨cl, Ar, q, S, N, H, G⟩ := A
  exact fun t k => X.aaload hx (by rw [eT]; exact Ar.1) (State.isArrayOf_alike hZ.alike Ar.2.1) hty Ar.2.2 (inb_of S hj) (H.at (inb_of S hj) hv) hg hs hd t k
theorem own_len (X : Stand p l e R s m args below meth c T locs cells slots) (hx : p.tables.exec = Jvm.exec) (hZ : Z.Warmed39 s.vm) (eT : T.heap = h) {ty : FieldType} (A : Arv Z h a k ty n vs dv) {g : JFrame} (hg : g.method = m) {rest : List Value} (hs : g.stack = .ref a :: rest) (hd : decode c.code g.pc = .ok (.arraylength, 1)) :
    ∀ target, Steps p.tables e below (T.setTop { g with pc := g.pc + 1, stack := .int n :: rest }) target → Steps p.tables e below (T.setTop g) target := by
  obtain ⟨cl, Ar, q, S, N, H, G⟩ := A
  intro t kk
  refine X.arraylength hx (by rw [eT]; exact Ar.1) (State.isArrayOf_alike hZ.alike Ar.2.1) hg hs hd t ?_
  rw [len_of S N]; exact kk
end Heap
end Jvm.RoadKit
namespace Jvm.RoadKit
open Sem ClassFile Op Lib Jvm.Stand Jvm.Free Jvm.LawKit
theorem own_ofNat {c : Int32} (h0 : 0 ≤ c.toInt) : c = Int32.ofNat c.toInt.toNat := by
  apply Int32.toInt_inj.mp
  show c.toInt = (Int32.ofNat c.toInt.toNat).toInt
  rw [Int32.toInt_ofNat_of_lt (by have := c.toInt_lt; omega), Int.toNat_of_nonneg h0]
theorem own_clamp {c : Int32} : c.toNatClampNeg = c.toInt.toNat := rfl
/-- a remainder of what a mask left -/
theorem own_pm (x : Int32) {y : Int32} {d : Int} (hy : y.toInt = d) (hd : 0 < d) : ((x &&& 2147483647) % y).toInt = x.toInt % 2147483648 % d ∧ 0 ≤ ((x &&& 2147483647) % y).toInt ∧ ((x &&& 2147483647) % y).toInt < d := by
  have e := c_mask x 2147483647 31 (by decide) (by decide)
  have e2 : ((2 ^ 31 : Nat) : Int) = 2147483648 := by decide
  rw [e2] at e
  have h0 : 0 ≤ (x &&& 2147483647).toInt := by rw [e]; exact Int.emod_nonneg _ (by decide)
  have q := (c_irem (x &&& 2147483647) y d hy).1 h0
  rw [e] at q
  have hd' : d ≠ 0 := by omega
  exact ⟨q, by rw [q]; exact Int.emod_nonneg _ hd', by rw [q]; exact Int.emod_lt_of_pos _ hd⟩
theorem own_r14 {x i : Int32} (h : i = (x &&& 2147483647) % 14) : i = 0 ∨ i = 1 ∨ i = 2 ∨ i = 3 ∨ i = 4 ∨ i = 5 ∨ i = 6 ∨ i = 7 ∨ i = 8 ∨ i = 9 ∨ i = 10 ∨ i = 11 ∨ i = 12 ∨ i = 13 := by
  obtain ⟨-, h1, h2⟩ := own_pm x (y := 14) (d := 14) (by decide) (by decide)
  rw [← h] at h1 h2
  have t : ∀ k : Fin 14, (Int32.ofNat k.1 = 0 ∨ Int32.ofNat k.1 = 1 ∨ Int32.ofNat k.1 = 2 ∨ Int32.ofNat k.1 = 3 ∨ Int32.ofNat k.1 = 4 ∨ Int32.ofNat k.1 = 5 ∨ Int32.ofNat k.1 = 6 ∨ Int32.ofNat k.1 = 7 ∨ Int32.ofNat k.1 = 8 ∨ Int32.ofNat k.1 = 9 ∨ Int32.ofNat k.1 = 10 ∨ Int32.ofNat k.1 = 11 ∨ Int32.ofNat k.1 = 12 ∨ Int32.ofNat k.1 = 13) := by decide +kernel
  have q := t ⟨i.toInt.toNat, by omega⟩
  rwa [← own_ofNat h1] at q
end Jvm.RoadKit
namespace Jvm.Pilot.@@N@@
open Jvm Jvm.ClassFile Sem Op Lib Jvm.Free Jvm.Stand Jvm.LawKit Jvm.RoadKit Bundle Jvm.Pilot.@@N@@.Jvm.D

def own_min (a b : Int32) : Int32 := if b < a then b else a
def own_max (a b : Int32) : Int32 := if a < b then b else a
def own_next (n l : Int32) : Int32 := own_min (own_max 16384 (2 * n)) l
/-- a byte array of that length -/
def own_Len (Z : State) (h : Heap) (a : Addr) (n : Int32) : Prop := Exa Z h a "[B" ∧ ∃ (k : ClassId) (vs : List Value) (d : Value), Arv Z h a k .byte n vs d
theorem own_Len.keep {Z : State} {h h' : Heap} {a : Addr} {n : Int32} {ws : List Addr} (L : own_Len Z h a n) (K : Keep h h' ws) (q : a ∉ ws) : own_Len Z h' a n := by
  obtain ⟨E, k, vs, d, V⟩ := L
  exact ⟨E.keep K, k, vs, d, V.keep K q⟩
theorem own_Len.lt {Z : State} {h : Heap} {a : Addr} {n : Int32} (L : own_Len Z h a n) : a < h.size := L.1.lt
theorem own_Len.nn {Z : State} {h : Heap} {a : Addr} {n : Int32} (L : own_Len Z h a n) : ¬ n < 0 := by obtain ⟨-, k, vs, d, c, -, -, -, q, -⟩ := L; exact q
theorem own_capI {n : Int32} {c : Nat} (h : n.toInt ≤ c) : n.toNatClampNeg ≤ c := by rw [own_clamp]; omega
theorem own_min1 {a b : Int32} (ha : ¬ a < 0) (hb : ¬ b < 0) : ¬ own_min a b < 0 ∧ (own_min a b).toNatClampNeg ≤ a.toNatClampNeg ∧ (own_min a b).toNatClampNeg ≤ b.toNatClampNeg := by
  unfold own_min
  rw [Int32.lt_iff_toInt_lt] at ha hb
  have e0 : (0 : Int32).toInt = 0 := by decide
  split
  · rename_i h; rw [Int32.lt_iff_toInt_lt] at h
    refine ⟨by rw [Int32.lt_iff_toInt_lt]; exact hb, ?_, Nat.le_refl _⟩
    rw [own_clamp, own_clamp]; omega
  · rename_i h; rw [Int32.lt_iff_toInt_lt] at h
    refine ⟨by rw [Int32.lt_iff_toInt_lt]; exact ha, Nat.le_refl _, ?_⟩
    rw [own_clamp, own_clamp]; omega
theorem own_nneg {n : Int32} (h : 0 ≤ n.toInt) : ¬ n < 0 := by
  rw [Int32.lt_iff_toInt_lt]; have e0 : (0 : Int32).toInt = 0 := by decide
  omega
theorem d7_0 : decode jdk_29_method_69_code 0 = .ok (.iload_n 0, 1) := by decide +kernel
theorem d7_1 : decode jdk_29_method_69_code 1 = .ok (.iload_n 1, 1) := by decide +kernel
theorem d7_2 : decode jdk_29_method_69_code 2 = .ok (.if_icmp .gt 7, 3) := by decide +kernel
theorem d7_5 : decode jdk_29_method_69_code 5 = .ok (.iload_n 0, 1) := by decide +kernel
theorem d7_6 : decode jdk_29_method_69_code 6 = .ok (.goto 4, 3) := by decide +kernel
theorem d7_9 : decode jdk_29_method_69_code 9 = .ok (.iload_n 1, 1) := by decide +kernel
theorem d7_10 : decode jdk_29_method_69_code 10 = .ok (.ireturn, 1) := by decide +kernel
theorem ef_rm7 (m : MethodId) (x0 : Int32) (x1 : Int32) : entryFrame m #[(.int x0), (.int x1)] 2 = mkF m 0 #[.val (.int x0), .val (.int x1)] [] := by first | (simp [entryFrame, mkF, argsToLocals, Value.category]; done) | rfl
def Q_rm7 (pA pB : Int32) (h0 : Heap) (n0 : Nat) (v : Option Value) (h : Heap) (L : List Loc) : Prop := v = some (.int (own_min pA pB)) ∧ Fr n0 L ∧ h = h0
set_option maxRecDepth 65536 in
set_option maxHeartbeats 40000000 in
theorem rm7 (l : Launch) (Z : State) (a0 : Array Value) (hw : ∀ d ∈ tables_1, d.before a0 Z = true) (ws : List Jvm.Cond) (pA : Int32) (pB : Int32)  (h0 : Heap) (n0 : Nat) (Z0 : n0 ≤ h0.size)  :
    MetFree l (⟨"java/lang/Math", "min", "(II)I"⟩ : MethodName) (head1 (Jvm.Cond.code (⟨"java/lang/Math", "min", "(II)I"⟩ : MethodName) jdk_29_method_69_code 2 (some .int) :: ws) ({ frames := 0, cells := 0, slots := 0, locals := 0 } : Room)) (fun a U => a = #[(.int pA), (.int pB)] ∧ Z.Warmed39 U.vm ∧ U.heap = h0) (fun _ _ _ _ _ => True) (fun _ U o U' => ∃ v L, o = .returned v ∧ Q_rm7 pA pB h0 n0 v U'.heap L ∧ FrameEnd U o U' L ({ frames := 0, cells := 0, slots := 0, locals := 0 } : Room).cells ({ frames := 0, cells := 0, slots := 0, locals := 0 } : Room).slots) := by
  refine MetFree.of_bodySF (Jvm.Free.JP.mathPlain rfl (by decide +kernel)) hisR ?_
  intro p e s m args below meth c s₁ Bd hml0 hP hK
  obtain ⟨rfl, hZ, hh⟩ := hP
  have hx := Bd.exec
  have hby := Bd.bytes
  have hml : c.maxLocals = 2 := hml0
  have hown : s.vm.findClass "java/lang/Math" = some m.cls := findClass_of_methodNamed Bd.named
  have hnm := (name_of_methodNamed Bd.named Bd.method).1
  have X0 : Stand p l e ({ frames := 0, cells := 0, slots := 0, locals := 0 } : Room) s m #[(.int pA), (.int pB)] below meth c s₁ [] 0 0 := Stand.of_body Bd
  have e0 : s₁.heap = h0 := by rw [← hh, Bd.state]; rfl
  have N0 := Fr.nil n0
  let PO : Outcome → State → Prop := own_PO s (Q_rm7 pA pB h0 n0) 0 0
  show own_Go p e below PO (s₁.setTop (entryFrame m #[(.int pA), (.int pB)] 2))
  rw [ef_rm7]
  show own_Go p e below PO (s₁.setTop (mkF m 0 #[.val (.int pA), .val (.int pB)] []))
  refine own_back ?_ (fun t k => XS.iloadN X0.here hx rfl (hb hby d7_0) rfl k)
  show own_Go p e below PO (s₁.setTop (mkF m 1 #[.val (.int pA), .val (.int pB)] [(.int pA)]))
  refine own_back ?_ (fun t k => XS.iloadN X0.here hx rfl (hb hby d7_1) rfl k)
  show own_Go p e below PO (s₁.setTop (mkF m 2 #[.val (.int pA), .val (.int pB)] [(.int pB), (.int pA)]))
  by_cases hc2_1 : pB < pA
  case pos =>
    refine own_back ?_ (fun t k => XS.icmpYes X0.here hx rfl (pc0 := 2) (pc' := 9) rfl (hb hby d7_2) rfl (tlt hc2_1).2.2.1 (by decide) (by decide) k)
    show own_Go p e below PO (s₁.setTop (mkF m 9 #[.val (.int pA), .val (.int pB)] []))
    refine own_back ?_ (fun t k => XS.iloadN X0.here hx rfl (hb hby d7_9) rfl k)
    show own_Go p e below PO (s₁.setTop (mkF m 10 #[.val (.int pA), .val (.int pB)] [(.int pB)]))
    refine own_retI X0 hx (rest := []) Bd.returns (hb hby d7_10) e0 (Bd.notSynchronized) ?_ (by decide) (by decide)
    exact ⟨by simp [own_min, hc2_1], N0, rfl⟩
  refine own_back ?_ (fun t k => XS.icmpNo X0.here hx rfl (hb hby d7_2) rfl (flt hc2_1).2.2.1 k)
  show own_Go p e below PO (s₁.setTop (mkF m 5 #[.val (.int pA), .val (.int pB)] []))
  refine own_back ?_ (fun t k => XS.iloadN X0.here hx rfl (hb hby d7_5) rfl k)
  show own_Go p e below PO (s₁.setTop (mkF m 6 #[.val (.int pA), .val (.int pB)] [(.int pA)]))
  refine own_back ?_ (fun t k => XS.goto X0.here hx rfl (pc0 := 6) (pc' := 10) rfl (hb hby d7_6) (by decide) (by decide) k)
  show own_Go p e below PO (s₁.setTop (mkF m 10 #[.val (.int pA), .val (.int pB)] [(.int pA)]))
  refine own_retI X0 hx (rest := []) Bd.returns (hb hby d7_10) e0 (Bd.notSynchronized) ?_ (by decide) (by decide)
  exact ⟨by simp [own_min, hc2_1], N0, rfl⟩
theorem d6_0 : decode jdk_29_method_65_code 0 = .ok (.iload_n 0, 1) := by decide +kernel
theorem d6_1 : decode jdk_29_method_65_code 1 = .ok (.iload_n 1, 1) := by decide +kernel
theorem d6_2 : decode jdk_29_method_65_code 2 = .ok (.if_icmp .lt 7, 3) := by decide +kernel
theorem d6_5 : decode jdk_29_method_65_code 5 = .ok (.iload_n 0, 1) := by decide +kernel
theorem d6_6 : decode jdk_29_method_65_code 6 = .ok (.goto 4, 3) := by decide +kernel
theorem d6_9 : decode jdk_29_method_65_code 9 = .ok (.iload_n 1, 1) := by decide +kernel
theorem d6_10 : decode jdk_29_method_65_code 10 = .ok (.ireturn, 1) := by decide +kernel
theorem ef_rm6 (m : MethodId) (x0 : Int32) (x1 : Int32) : entryFrame m #[(.int x0), (.int x1)] 2 = mkF m 0 #[.val (.int x0), .val (.int x1)] [] := by first | (simp [entryFrame, mkF, argsToLocals, Value.category]; done) | rfl
def Q_rm6 (pA pB : Int32) (h0 : Heap) (n0 : Nat) (v : Option Value) (h : Heap) (L : List Loc) : Prop := v = some (.int (own_max pA pB)) ∧ Fr n0 L ∧ h = h0
set_option maxRecDepth 65536 in
set_option maxHeartbeats 40000000 in
theorem rm6 (l : Launch) (Z : State) (a0 : Array Value) (hw : ∀ d ∈ tables_1, d.before a0 Z = true) (ws : List Jvm.Cond) (pA : Int32) (pB : Int32)  (h0 : Heap) (n0 : Nat) (Z0 : n0 ≤ h0.size)  :
    MetFree l (⟨"java/lang/Math", "max", "(II)I"⟩ : MethodName) (head1 (Jvm.Cond.code (⟨"java/lang/Math", "max", "(II)I"⟩ : MethodName) jdk_29_method_65_code 2 (some .int) :: ws) ({ frames := 0, cells := 0, slots := 0, locals := 0 } : Room)) (fun a U => a = #[(.int pA), (.int pB)] ∧ Z.Warmed39 U.vm ∧ U.heap = h0) (fun _ _ _ _ _ => True) (fun _ U o U' => ∃ v L, o = .returned v ∧ Q_rm6 pA pB h0 n0 v U'.heap L ∧ FrameEnd U o U' L ({ frames := 0, cells := 0, slots := 0, locals := 0 } : Room).cells ({ frames := 0, cells := 0, slots := 0, locals := 0 } : Room).slots) := by
  refine MetFree.of_bodySF (Jvm.Free.JP.mathPlain rfl (by decide +kernel)) hisR ?_
  intro p e s m args below meth c s₁ Bd hml0 hP hK
  obtain ⟨rfl, hZ, hh⟩ := hP
  have hx := Bd.exec
  have hby := Bd.bytes
  have hml : c.maxLocals = 2 := hml0
  have hown : s.vm.findClass "java/lang/Math" = some m.cls := findClass_of_methodNamed Bd.named
  have hnm := (name_of_methodNamed Bd.named Bd.method).1
  have X0 : Stand p l e ({ frames := 0, cells := 0, slots := 0, locals := 0 } : Room) s m #[(.int pA), (.int pB)] below meth c s₁ [] 0 0 := Stand.of_body Bd
  have e0 : s₁.heap = h0 := by rw [← hh, Bd.state]; rfl
  have N0 := Fr.nil n0
  let PO : Outcome → State → Prop := own_PO s (Q_rm6 pA pB h0 n0) 0 0
  show own_Go p e below PO (s₁.setTop (entryFrame m #[(.int pA), (.int pB)] 2))
  rw [ef_rm6]
  show own_Go p e below PO (s₁.setTop (mkF m 0 #[.val (.int pA), .val (.int pB)] []))
  refine own_back ?_ (fun t k => XS.iloadN X0.here hx rfl (hb hby d6_0) rfl k)
  show own_Go p e below PO (s₁.setTop (mkF m 1 #[.val (.int pA), .val (.int pB)] [(.int pA)]))
  refine own_back ?_ (fun t k => XS.iloadN X0.here hx rfl (hb hby d6_1) rfl k)
  show own_Go p e below PO (s₁.setTop (mkF m 2 #[.val (.int pA), .val (.int pB)] [(.int pB), (.int pA)]))
  by_cases hc2_1 : pA < pB
  case pos =>
    refine own_back ?_ (fun t k => XS.icmpYes X0.here hx rfl (pc0 := 2) (pc' := 9) rfl (hb hby d6_2) rfl (tlt hc2_1).1 (by decide) (by decide) k)
    show own_Go p e below PO (s₁.setTop (mkF m 9 #[.val (.int pA), .val (.int pB)] []))
    refine own_back ?_ (fun t k => XS.iloadN X0.here hx rfl (hb hby d6_9) rfl k)
    show own_Go p e below PO (s₁.setTop (mkF m 10 #[.val (.int pA), .val (.int pB)] [(.int pB)]))
    refine own_retI X0 hx (rest := []) Bd.returns (hb hby d6_10) e0 (Bd.notSynchronized) ?_ (by decide) (by decide)
    exact ⟨by simp [own_max, hc2_1], N0, rfl⟩
  refine own_back ?_ (fun t k => XS.icmpNo X0.here hx rfl (hb hby d6_2) rfl (flt hc2_1).1 k)
  show own_Go p e below PO (s₁.setTop (mkF m 5 #[.val (.int pA), .val (.int pB)] []))
  refine own_back ?_ (fun t k => XS.iloadN X0.here hx rfl (hb hby d6_5) rfl k)
  show own_Go p e below PO (s₁.setTop (mkF m 6 #[.val (.int pA), .val (.int pB)] [(.int pA)]))
  refine own_back ?_ (fun t k => XS.goto X0.here hx rfl (pc0 := 6) (pc' := 10) rfl (hb hby d6_6) (by decide) (by decide) k)
  show own_Go p e below PO (s₁.setTop (mkF m 10 #[.val (.int pA), .val (.int pB)] [(.int pA)]))
  refine own_retI X0 hx (rest := []) Bd.returns (hb hby d6_10) e0 (Bd.notSynchronized) ?_ (by decide) (by decide)
  exact ⟨by simp [own_max, hc2_1], N0, rfl⟩
theorem pd_0 : parseMethodDescriptor "(II)I" = some ⟨[.int, .int], some .int⟩ := by decide +kernel
theorem d10_0 : decode jdk_65_method_121_code 0 = .ok (.iload_n 1, 1) := by decide +kernel
theorem d10_1 : decode jdk_65_method_121_code 1 = .ok (.aload_n 0, 1) := by decide +kernel
theorem d10_2 : decode jdk_65_method_121_code 2 = .ok (.arraylength, 1) := by decide +kernel
theorem d10_3 : decode jdk_65_method_121_code 3 = .ok (.if_icmp .ne 11, 3) := by decide +kernel
theorem d10_6 : decode jdk_65_method_121_code 6 = .ok (.aload_n 0, 1) := by decide +kernel
theorem d10_7 : decode jdk_65_method_121_code 7 = .ok (.invokevirtual 310, 3) := by decide +kernel
theorem d10_10 : decode jdk_65_method_121_code 10 = .ok (.checkcast 311, 3) := by decide +kernel
theorem d10_13 : decode jdk_65_method_121_code 13 = .ok (.areturn, 1) := by decide +kernel
theorem d10_14 : decode jdk_65_method_121_code 14 = .ok (.iload_n 1, 1) := by decide +kernel
theorem d10_15 : decode jdk_65_method_121_code 15 = .ok (.newarray .byte, 2) := by decide +kernel
theorem d10_17 : decode jdk_65_method_121_code 17 = .ok (.astore_n 2, 1) := by decide +kernel
theorem d10_18 : decode jdk_65_method_121_code 18 = .ok (.aload_n 0, 1) := by decide +kernel
theorem d10_19 : decode jdk_65_method_121_code 19 = .ok (.iconst 0, 1) := by decide +kernel
theorem d10_20 : decode jdk_65_method_121_code 20 = .ok (.aload_n 2, 1) := by decide +kernel
theorem d10_21 : decode jdk_65_method_121_code 21 = .ok (.iconst 0, 1) := by decide +kernel
theorem d10_22 : decode jdk_65_method_121_code 22 = .ok (.aload_n 0, 1) := by decide +kernel
theorem d10_23 : decode jdk_65_method_121_code 23 = .ok (.arraylength, 1) := by decide +kernel
theorem d10_24 : decode jdk_65_method_121_code 24 = .ok (.iload_n 1, 1) := by decide +kernel
theorem d10_25 : decode jdk_65_method_121_code 25 = .ok (.invokestatic 304, 3) := by decide +kernel
theorem d10_28 : decode jdk_65_method_121_code 28 = .ok (.invokestatic 150, 3) := by decide +kernel
theorem d10_31 : decode jdk_65_method_121_code 31 = .ok (.aload_n 2, 1) := by decide +kernel
theorem d10_32 : decode jdk_65_method_121_code 32 = .ok (.areturn, 1) := by decide +kernel
theorem pn_0 : plainName "java/util/Arrays" = true := by first | (simp [plainName, overriddenIn]; done) | decide +kernel
theorem ef_rmCp_0 (m : MethodId) (x0 : Addr) (x1 : Int32) : entryFrame m #[(.ref x0), (.int x1)] 3 = mkF m 0 #[.val (.ref x0), .val (.int x1), .unset] [] := by first | (simp [entryFrame, mkF, argsToLocals, Value.category]; done) | rfl
def Q_rmCp_0 (Z : State) (pN : Int32) (h0 : Heap) (n0 : Nat) (v : Option Value) (h : Heap) (L : List Loc) : Prop := ∃ aN : Addr, v = some (.ref aN) ∧ Fr n0 L ∧ Keep h0 h [] ∧ h0.size ≤ aN ∧ own_Len Z h aN pN
set_option maxRecDepth 65536 in
set_option maxHeartbeats 40000000 in
theorem rmCp_0 (l : Launch) (Z : State) (a0 : Array Value) (hw : ∀ d ∈ tables_1, d.before a0 Z = true) (ws : List Jvm.Cond) (aD : Addr) (pN : Int32) (zD : Int32) (h0 : Heap) (n0 : Nat) (Z0 : n0 ≤ h0.size) (LD : own_Len Z h0 aD zD) (nnD : ¬ zD < 0) (hN : 0 ≤ pN.toInt ∧ pN.toInt ≤ 0) :
    MetFree l (⟨"java/util/Arrays", "copyOf", "([BI)[B"⟩ : MethodName) (head1 (Jvm.Cond.code (⟨"java/util/Arrays", "copyOf", "([BI)[B"⟩ : MethodName) jdk_65_method_121_code 3 (some (.array .byte)) :: ws) ({ frames := 1, cells := 1, slots := 0, locals := 18 } : Room)) (fun a U => a = #[(.ref aD), (.int pN)] ∧ Z.Warmed39 U.vm ∧ U.heap = h0) (fun _ _ _ _ _ => True) (fun _ U o U' => ∃ v L, o = .returned v ∧ Q_rmCp_0 Z pN h0 n0 v U'.heap L ∧ FrameEnd U o U' L ({ frames := 1, cells := 1, slots := 0, locals := 18 } : Room).cells ({ frames := 1, cells := 1, slots := 0, locals := 18 } : Room).slots) := by
  refine MetFree.of_bodySF (plainFor_of_name pn_0) hisR ?_
  intro p e s m args below meth c s₁ Bd hml0 hP hK
  obtain ⟨rfl, hZ, hh⟩ := hP
  have hx := Bd.exec
  have hby := Bd.bytes
  have hml : c.maxLocals = 3 := hml0
  have hown : s.vm.findClass "java/util/Arrays" = some m.cls := findClass_of_methodNamed Bd.named
  have hnm := (name_of_methodNamed Bd.named Bd.method).1
  have X0 : Stand p l e ({ frames := 1, cells := 1, slots := 0, locals := 18 } : Room) s m #[(.ref aD), (.int pN)] below meth c s₁ [] 0 0 := Stand.of_body Bd
  have e0 : s₁.heap = h0 := by rw [← hh, Bd.state]; rfl
  have N0 := Fr.nil n0
  let PO : Outcome → State → Prop := own_PO s (Q_rmCp_0 Z pN h0 n0) 1 0
  show own_Go p e below PO (s₁.setTop (entryFrame m #[(.ref aD), (.int pN)] 3))
  rw [ef_rmCp_0]
  obtain ⟨ED, kD, vsD, dD, VD⟩ := LD
  show own_Go p e below PO (s₁.setTop (mkF m 0 #[.val (.ref aD), .val (.int pN), .unset] []))
  refine own_back ?_ (fun t k => XS.iloadN X0.here hx rfl (hb hby d10_0) rfl k)
  show own_Go p e below PO (s₁.setTop (mkF m 1 #[.val (.ref aD), .val (.int pN), .unset] [(.int pN)]))
  refine own_back ?_ (fun t k => XS.aloadN X0.here hx rfl (hb hby d10_1) rfl rfl k)
  show own_Go p e below PO (s₁.setTop (mkF m 2 #[.val (.ref aD), .val (.int pN), .unset] [(.ref aD), (.int pN)]))
  refine own_back ?_ (own_len X0 hx hZ e0 VD (g := (mkF m 2 #[.val (.ref aD), .val (.int pN), .unset] [(.ref aD), (.int pN)])) rfl rfl (hb hby d10_2))
  show own_Go p e below PO (s₁.setTop (mkF m 3 #[.val (.ref aD), .val (.int pN), .unset] [(.int zD), (.int pN)]))
  by_cases hc3_1 : pN = zD
  case pos =>
    refine own_back ?_ (fun t k => XS.icmpNo X0.here hx rfl (hb hby d10_3) rfl (teq hc3_1).2 k)
    show own_Go p e below PO (s₁.setTop (mkF m 6 #[.val (.ref aD), .val (.int pN), .unset] []))
    refine own_back ?_ (fun t k => XS.aloadN X0.here hx rfl (hb hby d10_6) rfl rfl k)
    show own_Go p e below PO (s₁.setTop (mkF m 7 #[.val (.ref aD), .val (.int pN), .unset] [(.ref aD)]))
    obtain ⟨T2, h2, X2, e2, E2, A2, Ex2, st2⟩ := cloneH X0 hx hZ hown (hw _ (List.mem_of_getElem? (i := 60) rfl)) (hw _ (List.mem_of_getElem? (i := 61) rfl)) (hw _ (List.mem_of_getElem? (i := 65) rfl)) (hw _ (List.mem_of_getElem? (i := 63) rfl)) (hw _ (List.mem_of_getElem? (i := 64) rfl)) (hw _ (List.mem_of_getElem? (i := 66) rfl)) e0 (VD).arh ED (g := (mkF m 7 #[.val (.ref aD), .val (.int pN), .unset] [(.ref aD)])) rfl (by rw [hml]; rfl) rfl (hb hby d10_7) (by decide) (W := 0) (by show 2 * 0 + _ ≤ _; exact Nat.le_of_eq rfl) (by decide) (cap := 0) (own_capI (by rw [← hc3_1]; exact hN.2)) (by decide) (by decide)
    obtain ⟨b2, g2⟩ : ∃ z, z = h0.size := ⟨_, rfl⟩
    rw [← g2] at A2 Ex2 st2
    have ne_aD_b2 : aD ≠ b2 := Nat.ne_of_lt (Nat.lt_of_lt_of_le ED.lt (Nat.le_of_eq g2.symm))
    have sz_b2 : h0.size ≤ b2 := Nat.le_of_eq g2.symm
    have gn_b2 : n0 ≤ b2 := Nat.le_trans Z0 sz_b2
    have K2 : Keep h0 h2 [] := (Keep.refl h0 []).ext E2
    have Zh2 : n0 ≤ h2.size := Nat.le_trans Z0 K2.1
    have V2 : Arv Z h2 b2 kD .byte zD vsD dD := A2
    refine own_back ?_ st2
    show own_Go p e below PO (T2.setTop (mkF m 10 #[.val (.ref aD), .val (.int pN), .unset] [(.ref b2)]))
    obtain ⟨T3, X3, e3, st3⟩ := castY X2 hx hZ hown (hw _ (List.mem_of_getElem? (i := 67) rfl)) e2 (Ins.self Ex2) (g := (mkF m 10 #[.val (.ref aD), .val (.int pN), .unset] [(.ref b2)])) rfl rfl (hb hby d10_10)
    refine own_back ?_ st3
    show own_Go p e below PO (T3.setTop (mkF m 13 #[.val (.ref aD), .val (.int pN), .unset] [(.ref b2)]))
    refine own_retA X3 hx (w := (.ref b2)) (rest := []) Bd.returns rfl rfl (hb hby d10_13) e3 (Bd.notSynchronized) ?_ (by decide) (by decide)
    exact ⟨b2, rfl, N0, K2, sz_b2, Ex2, _, _, _, hc3_1.symm ▸ V2⟩
  refine own_back ?_ (fun t k => XS.icmpYes X0.here hx rfl (pc0 := 3) (pc' := 14) rfl (hb hby d10_3) rfl (feq hc3_1).2 (by decide) (by decide) k)
  show own_Go p e below PO (s₁.setTop (mkF m 14 #[.val (.ref aD), .val (.int pN), .unset] []))
  refine own_back ?_ (fun t k => XS.iloadN X0.here hx rfl (hb hby d10_14) rfl k)
  show own_Go p e below PO (s₁.setTop (mkF m 15 #[.val (.ref aD), .val (.int pN), .unset] [(.int pN)]))
  obtain ⟨T4, h4, k4, X4, e4, E4, A4, Ex4, st4⟩ := newPE X0 hx hZ (hw _ (List.mem_of_getElem? (i := 15) rfl)) e0 (g := (mkF m 15 #[.val (.ref aD), .val (.int pN), .unset] [(.int pN)])) rfl (hb hby d10_15) rfl (own_nneg hN.1) (cap := 0) (own_capI hN.2) (by decide) (by decide) (by decide) (ad := "[B") (by decide)
  obtain ⟨b4, g4⟩ : ∃ z, z = h0.size := ⟨_, rfl⟩
  rw [← g4] at A4 Ex4 st4
  have ne_aD_b4 : aD ≠ b4 := Nat.ne_of_lt (Nat.lt_of_lt_of_le ED.lt (Nat.le_of_eq g4.symm))
  have sz_b4 : h0.size ≤ b4 := Nat.le_of_eq g4.symm
  have gn_b4 : n0 ≤ b4 := Nat.le_trans Z0 sz_b4
  have K4 : Keep h0 h4 [] := (Keep.refl h0 []).ext E4
  have Zh4 : n0 ≤ h4.size := Nat.le_trans Z0 K4.1
  have V4 : Arv Z h4 b4 k4 .byte pN [] (.int (0 : Int32)) := (Arv.new A4 (own_nneg hN.1))
  refine own_back ?_ st4
  show own_Go p e below PO (T4.setTop (mkF m 17 #[.val (.ref aD), .val (.int pN), .unset] [(.ref b4)]))
  refine own_back ?_ (fun t k => XS.astoreN X4.here hx rfl (hb hby d10_17) rfl rfl (l' := #[.val (.ref aD), .val (.int pN), .val (.ref b4)]) rfl k)
  show own_Go p e below PO (T4.setTop (mkF m 18 #[.val (.ref aD), .val (.int pN), .val (.ref b4)] []))
  refine own_back ?_ (fun t k => XS.aloadN X4.here hx rfl (hb hby d10_18) rfl rfl k)
  show own_Go p e below PO (T4.setTop (mkF m 19 #[.val (.ref aD), .val (.int pN), .val (.ref b4)] [(.ref aD)]))
  refine own_back ?_ (fun t k => XS.iconst X4.here hx rfl (hb hby d10_19) k)
  show own_Go p e below PO (T4.setTop (mkF m 20 #[.val (.ref aD), .val (.int pN), .val (.ref b4)] [(.int (0 : Int32)), (.ref aD)]))
  refine own_back ?_ (fun t k => XS.aloadN X4.here hx rfl (hb hby d10_20) rfl rfl k)
  show own_Go p e below PO (T4.setTop (mkF m 21 #[.val (.ref aD), .val (.int pN), .val (.ref b4)] [(.ref b4), (.int (0 : Int32)), (.ref aD)]))
  refine own_back ?_ (fun t k => XS.iconst X4.here hx rfl (hb hby d10_21) k)
  show own_Go p e below PO (T4.setTop (mkF m 22 #[.val (.ref aD), .val (.int pN), .val (.ref b4)] [(.int (0 : Int32)), (.ref b4), (.int (0 : Int32)), (.ref aD)]))
  refine own_back ?_ (fun t k => XS.aloadN X4.here hx rfl (hb hby d10_22) rfl rfl k)
  show own_Go p e below PO (T4.setTop (mkF m 23 #[.val (.ref aD), .val (.int pN), .val (.ref b4)] [(.ref aD), (.int (0 : Int32)), (.ref b4), (.int (0 : Int32)), (.ref aD)]))
  refine own_back ?_ (own_len X4 hx hZ e4 (VD.keep K4 nin0) (g := (mkF m 23 #[.val (.ref aD), .val (.int pN), .val (.ref b4)] [(.ref aD), (.int (0 : Int32)), (.ref b4), (.int (0 : Int32)), (.ref aD)])) rfl rfl (hb hby d10_23))
  show own_Go p e below PO (T4.setTop (mkF m 24 #[.val (.ref aD), .val (.int pN), .val (.ref b4)] [(.int zD), (.int (0 : Int32)), (.ref b4), (.int (0 : Int32)), (.ref aD)]))
  refine own_back ?_ (fun t k => XS.iloadN X4.here hx rfl (hb hby d10_24) rfl k)
  show own_Go p e below PO (T4.setTop (mkF m 25 #[.val (.ref aD), .val (.int pN), .val (.ref b4)] [(.int pN), (.int zD), (.int (0 : Int32)), (.ref b4), (.int (0 : Int32)), (.ref aD)]))
  obtain ⟨_, _, ⟨T5, L5, k5, n5⟩, -, X5, ⟨Lc5, hQ5, l5, y5, z5⟩, st5⟩ := Jvm.LawKit.callS X4 hx (y := (⟨"java/lang/Math", "min", "(II)I"⟩ : MethodName)) hown (mvT hZ (hw _ (List.mem_of_getElem? (i := 69) rfl))) (mvT hZ (hw _ (List.mem_of_getElem? (i := 41) rfl))) (mvT hZ (hw _ (List.mem_of_getElem? (i := 38) rfl))) (mvT hZ (hw _ (List.mem_of_getElem? (i := 42) rfl))) (by decide) (backOf (W := 4) (rm7 l Z a0 hw [] zD pN  h4 n0 Zh4 ) hZ (hw _ (List.mem_of_getElem? (i := 42) rfl)) (hw _ (List.mem_of_getElem? (i := 38) rfl)) (by decide) (by decide)) (g := (mkF m 25 #[.val (.ref aD), .val (.int pN), .val (.ref b4)] [(.int pN), (.int zD), (.int (0 : Int32)), (.ref b4), (.int (0 : Int32)), (.ref aD)])) rfl (by rw [hml]; rfl) (argsL := [(.int zD), (.int pN)]) (rest := [(.int (0 : Int32)), (.ref b4), (.int (0 : Int32)), (.ref aD)]) (lenOf pd_0 rfl) rfl (by show 2 * 0 + _ ≤ _; exact Nat.le_of_eq rfl) (hb hby d10_25) (fun _ _ => ⟨rfl, e4, (by decide : 1 + 0 ≤ _), (by decide : 0 + 0 ≤ _)⟩)
  dsimp only [Pt.U, Pt.locs, Pt.cells, Pt.slots] at X5 l5 y5 z5 st5 hQ5
  subst l5 y5 z5
  obtain ⟨rfl, N5q, e5⟩ := hQ5
  have N5 := Fr.app N0 N5q
  refine own_back ?_ st5
  show own_Go p e below PO (T5.setTop (mkF m 28 #[.val (.ref aD), .val (.int pN), .val (.ref b4)] [(.int (own_min zD pN)), (.int (0 : Int32)), (.ref b4), (.int (0 : Int32)), (.ref aD)]))
  refine own_gen (A := Int32) (own_min zD pN) (fun r25_6 => own_Go p e below PO (T5.setTop (mkF m 28 #[.val (.ref aD), .val (.int pN), .val (.ref b4)] [(.int r25_6), (.int (0 : Int32)), (.ref b4), (.int (0 : Int32)), (.ref aD)]))) ?_
  intro r25_6 h_r25_6
  show own_Go p e below PO (T5.setTop (mkF m 28 #[.val (.ref aD), .val (.int pN), .val (.ref b4)] [(.int r25_6), (.int (0 : Int32)), (.ref b4), (.int (0 : Int32)), (.ref aD)]))
  obtain ⟨mn0, mnA, mnB⟩ := own_min1 nnD (own_nneg hN.1)
  rw [← h_r25_6] at mn0 mnA mnB
  have VP := V4.pad (pad_rep [] (.int (0 : Int32)) pN.toNatClampNeg)
  obtain ⟨T7, h7, L7, X7, e7, N7, Kc7, V7, st7⟩ := cpA X5 hx hZ hown (hw _ (List.mem_of_getElem? (i := 70) rfl)) (hw _ (List.mem_of_getElem? (i := 73) rfl)) (hw _ (List.mem_of_getElem? (i := 71) rfl)) (hw _ (List.mem_of_getElem? (i := 72) rfl)) e5 (VD.keep K4 nin0) VP (Or.inl ⟨rfl, rfl⟩) (by decide) (by decide) mn0 (by show 0 + _ ≤ _; omega) (by show 0 + _ ≤ _; omega) rfl (by show 0 + _ ≤ _; simp; exact mnB) N5 gn_b4 (g := (mkF m 28 #[.val (.ref aD), .val (.int pN), .val (.ref b4)] [(.int r25_6), (.int (0 : Int32)), (.ref b4), (.int (0 : Int32)), (.ref aD)])) rfl (by rw [hml]; rfl) rfl (hb hby d10_28) (by decide) (W := 0) (by show 2 * 0 + _ ≤ _; exact Nat.le_of_eq rfl) (by decide)
  have f7_8 := Ex4.keep Kc7
  have K7 : Keep h0 h7 [] := (K4).trans Kc7 (allS (Or.inr sz_b4) all0)
  have Zh7 : n0 ≤ h7.size := Nat.le_trans Z0 K7.1
  refine own_back ?_ st7
  show own_Go p e below PO (T7.setTop (mkF m 31 #[.val (.ref aD), .val (.int pN), .val (.ref b4)] []))
  refine own_back ?_ (fun t k => XS.aloadN X7.here hx rfl (hb hby d10_31) rfl rfl k)
  show own_Go p e below PO (T7.setTop (mkF m 32 #[.val (.ref aD), .val (.int pN), .val (.ref b4)] [(.ref b4)]))
  refine own_retA X7 hx (w := (.ref b4)) (rest := []) Bd.returns rfl rfl (hb hby d10_32) e7 (Bd.notSynchronized) ?_ (by decide) (by decide)
  exact ⟨b4, rfl, N7, K7, sz_b4, f7_8, _, _, _, V7⟩
theorem ef_rmCp_16384 (m : MethodId) (x0 : Addr) (x1 : Int32) : entryFrame m #[(.ref x0), (.int x1)] 3 = mkF m 0 #[.val (.ref x0), .val (.int x1), .unset] [] := by first | (simp [entryFrame, mkF, argsToLocals, Value.category]; done) | rfl
def Q_rmCp_16384 (Z : State) (pN : Int32) (h0 : Heap) (n0 : Nat) (v : Option Value) (h : Heap) (L : List Loc) : Prop := ∃ aN : Addr, v = some (.ref aN) ∧ Fr n0 L ∧ Keep h0 h [] ∧ h0.size ≤ aN ∧ own_Len Z h aN pN
set_option maxRecDepth 65536 in
set_option maxHeartbeats 40000000 in
theorem rmCp_16384 (l : Launch) (Z : State) (a0 : Array Value) (hw : ∀ d ∈ tables_1, d.before a0 Z = true) (ws : List Jvm.Cond) (aD : Addr) (pN : Int32) (zD : Int32) (h0 : Heap) (n0 : Nat) (Z0 : n0 ≤ h0.size) (LD : own_Len Z h0 aD zD) (nnD : ¬ zD < 0) (hN : 0 ≤ pN.toInt ∧ pN.toInt ≤ 16384) :
    MetFree l (⟨"java/util/Arrays", "copyOf", "([BI)[B"⟩ : MethodName) (head1 (Jvm.Cond.code (⟨"java/util/Arrays", "copyOf", "([BI)[B"⟩ : MethodName) jdk_65_method_121_code 3 (some (.array .byte)) :: ws) ({ frames := 1, cells := 1, slots := 16384, locals := 18 } : Room)) (fun a U => a = #[(.ref aD), (.int pN)] ∧ Z.Warmed39 U.vm ∧ U.heap = h0) (fun _ _ _ _ _ => True) (fun _ U o U' => ∃ v L, o = .returned v ∧ Q_rmCp_16384 Z pN h0 n0 v U'.heap L ∧ FrameEnd U o U' L ({ frames := 1, cells := 1, slots := 16384, locals := 18 } : Room).cells ({ frames := 1, cells := 1, slots := 16384, locals := 18 } : Room).slots) := by
  refine MetFree.of_bodySF (plainFor_of_name pn_0) hisR ?_
  intro p e s m args below meth c s₁ Bd hml0 hP hK
  obtain ⟨rfl, hZ, hh⟩ := hP
  have hx := Bd.exec
  have hby := Bd.bytes
  have hml : c.maxLocals = 3 := hml0
  have hown : s.vm.findClass "java/util/Arrays" = some m.cls := findClass_of_methodNamed Bd.named
  have hnm := (name_of_methodNamed Bd.named Bd.method).1
  have X0 : Stand p l e ({ frames := 1, cells := 1, slots := 16384, locals := 18 } : Room) s m #[(.ref aD), (.int pN)] below meth c s₁ [] 0 0 := Stand.of_body Bd
  have e0 : s₁.heap = h0 := by rw [← hh, Bd.state]; rfl
  have N0 := Fr.nil n0
  let PO : Outcome → State → Prop := own_PO s (Q_rmCp_16384 Z pN h0 n0) 1 16384
  show own_Go p e below PO (s₁.setTop (entryFrame m #[(.ref aD), (.int pN)] 3))
  rw [ef_rmCp_16384]
  obtain ⟨ED, kD, vsD, dD, VD⟩ := LD
  show own_Go p e below PO (s₁.setTop (mkF m 0 #[.val (.ref aD), .val (.int pN), .unset] []))
  refine own_back ?_ (fun t k => XS.iloadN X0.here hx rfl (hb hby d10_0) rfl k)
  show own_Go p e below PO (s₁.setTop (mkF m 1 #[.val (.ref aD), .val (.int pN), .unset] [(.int pN)]))
  refine own_back ?_ (fun t k => XS.aloadN X0.here hx rfl (hb hby d10_1) rfl rfl k)
  show own_Go p e below PO (s₁.setTop (mkF m 2 #[.val (.ref aD), .val (.int pN), .unset] [(.ref aD), (.int pN)]))
  refine own_back ?_ (own_len X0 hx hZ e0 VD (g := (mkF m 2 #[.val (.ref aD), .val (.int pN), .unset] [(.ref aD), (.int pN)])) rfl rfl (hb hby d10_2))
  show own_Go p e below PO (s₁.setTop (mkF m 3 #[.val (.ref aD), .val (.int pN), .unset] [(.int zD), (.int pN)]))
  by_cases hc3_1 : pN = zD
  case pos =>
    refine own_back ?_ (fun t k => XS.icmpNo X0.here hx rfl (hb hby d10_3) rfl (teq hc3_1).2 k)
    show own_Go p e below PO (s₁.setTop (mkF m 6 #[.val (.ref aD), .val (.int pN), .unset] []))
    refine own_back ?_ (fun t k => XS.aloadN X0.here hx rfl (hb hby d10_6) rfl rfl k)
    show own_Go p e below PO (s₁.setTop (mkF m 7 #[.val (.ref aD), .val (.int pN), .unset] [(.ref aD)]))
    obtain ⟨T2, h2, X2, e2, E2, A2, Ex2, st2⟩ := cloneH X0 hx hZ hown (hw _ (List.mem_of_getElem? (i := 60) rfl)) (hw _ (List.mem_of_getElem? (i := 61) rfl)) (hw _ (List.mem_of_getElem? (i := 65) rfl)) (hw _ (List.mem_of_getElem? (i := 63) rfl)) (hw _ (List.mem_of_getElem? (i := 64) rfl)) (hw _ (List.mem_of_getElem? (i := 66) rfl)) e0 (VD).arh ED (g := (mkF m 7 #[.val (.ref aD), .val (.int pN), .unset] [(.ref aD)])) rfl (by rw [hml]; rfl) rfl (hb hby d10_7) (by decide) (W := 0) (by show 2 * 0 + _ ≤ _; exact Nat.le_of_eq rfl) (by decide) (cap := 16384) (own_capI (by rw [← hc3_1]; exact hN.2)) (by decide) (by decide)
    obtain ⟨b2, g2⟩ : ∃ z, z = h0.size := ⟨_, rfl⟩
    rw [← g2] at A2 Ex2 st2
    have ne_aD_b2 : aD ≠ b2 := Nat.ne_of_lt (Nat.lt_of_lt_of_le ED.lt (Nat.le_of_eq g2.symm))
    have sz_b2 : h0.size ≤ b2 := Nat.le_of_eq g2.symm
    have gn_b2 : n0 ≤ b2 := Nat.le_trans Z0 sz_b2
    have K2 : Keep h0 h2 [] := (Keep.refl h0 []).ext E2
    have Zh2 : n0 ≤ h2.size := Nat.le_trans Z0 K2.1
    have V2 : Arv Z h2 b2 kD .byte zD vsD dD := A2
    refine own_back ?_ st2
    show own_Go p e below PO (T2.setTop (mkF m 10 #[.val (.ref aD), .val (.int pN), .unset] [(.ref b2)]))
    obtain ⟨T3, X3, e3, st3⟩ := castY X2 hx hZ hown (hw _ (List.mem_of_getElem? (i := 67) rfl)) e2 (Ins.self Ex2) (g := (mkF m 10 #[.val (.ref aD), .val (.int pN), .unset] [(.ref b2)])) rfl rfl (hb hby d10_10)
    refine own_back ?_ st3
    show own_Go p e below PO (T3.setTop (mkF m 13 #[.val (.ref aD), .val (.int pN), .unset] [(.ref b2)]))
    refine own_retA X3 hx (w := (.ref b2)) (rest := []) Bd.returns rfl rfl (hb hby d10_13) e3 (Bd.notSynchronized) ?_ (by decide) (by decide)
    exact ⟨b2, rfl, N0, K2, sz_b2, Ex2, _, _, _, hc3_1.symm ▸ V2⟩
  refine own_back ?_ (fun t k => XS.icmpYes X0.here hx rfl (pc0 := 3) (pc' := 14) rfl (hb hby d10_3) rfl (feq hc3_1).2 (by decide) (by decide) k)
  show own_Go p e below PO (s₁.setTop (mkF m 14 #[.val (.ref aD), .val (.int pN), .unset] []))
  refine own_back ?_ (fun t k => XS.iloadN X0.here hx rfl (hb hby d10_14) rfl k)
  show own_Go p e below PO (s₁.setTop (mkF m 15 #[.val (.ref aD), .val (.int pN), .unset] [(.int pN)]))
  obtain ⟨T4, h4, k4, X4, e4, E4, A4, Ex4, st4⟩ := newPE X0 hx hZ (hw _ (List.mem_of_getElem? (i := 15) rfl)) e0 (g := (mkF m 15 #[.val (.ref aD), .val (.int pN), .unset] [(.int pN)])) rfl (hb hby d10_15) rfl (own_nneg hN.1) (cap := 16384) (own_capI hN.2) (by decide) (by decide) (by decide) (ad := "[B") (by decide)
  obtain ⟨b4, g4⟩ : ∃ z, z = h0.size := ⟨_, rfl⟩
  rw [← g4] at A4 Ex4 st4
  have ne_aD_b4 : aD ≠ b4 := Nat.ne_of_lt (Nat.lt_of_lt_of_le ED.lt (Nat.le_of_eq g4.symm))
  have sz_b4 : h0.size ≤ b4 := Nat.le_of_eq g4.symm
  have gn_b4 : n0 ≤ b4 := Nat.le_trans Z0 sz_b4
  have K4 : Keep h0 h4 [] := (Keep.refl h0 []).ext E4
  have Zh4 : n0 ≤ h4.size := Nat.le_trans Z0 K4.1
  have V4 : Arv Z h4 b4 k4 .byte pN [] (.int (0 : Int32)) := (Arv.new A4 (own_nneg hN.1))
  refine own_back ?_ st4
  show own_Go p e below PO (T4.setTop (mkF m 17 #[.val (.ref aD), .val (.int pN), .unset] [(.ref b4)]))
  refine own_back ?_ (fun t k => XS.astoreN X4.here hx rfl (hb hby d10_17) rfl rfl (l' := #[.val (.ref aD), .val (.int pN), .val (.ref b4)]) rfl k)
  show own_Go p e below PO (T4.setTop (mkF m 18 #[.val (.ref aD), .val (.int pN), .val (.ref b4)] []))
  refine own_back ?_ (fun t k => XS.aloadN X4.here hx rfl (hb hby d10_18) rfl rfl k)
  show own_Go p e below PO (T4.setTop (mkF m 19 #[.val (.ref aD), .val (.int pN), .val (.ref b4)] [(.ref aD)]))
  refine own_back ?_ (fun t k => XS.iconst X4.here hx rfl (hb hby d10_19) k)
  show own_Go p e below PO (T4.setTop (mkF m 20 #[.val (.ref aD), .val (.int pN), .val (.ref b4)] [(.int (0 : Int32)), (.ref aD)]))
  refine own_back ?_ (fun t k => XS.aloadN X4.here hx rfl (hb hby d10_20) rfl rfl k)
  show own_Go p e below PO (T4.setTop (mkF m 21 #[.val (.ref aD), .val (.int pN), .val (.ref b4)] [(.ref b4), (.int (0 : Int32)), (.ref aD)]))
  refine own_back ?_ (fun t k => XS.iconst X4.here hx rfl (hb hby d10_21) k)
  show own_Go p e below PO (T4.setTop (mkF m 22 #[.val (.ref aD), .val (.int pN), .val (.ref b4)] [(.int (0 : Int32)), (.ref b4), (.int (0 : Int32)), (.ref aD)]))
  refine own_back ?_ (fun t k => XS.aloadN X4.here hx rfl (hb hby d10_22) rfl rfl k)
  show own_Go p e below PO (T4.setTop (mkF m 23 #[.val (.ref aD), .val (.int pN), .val (.ref b4)] [(.ref aD), (.int (0 : Int32)), (.ref b4), (.int (0 : Int32)), (.ref aD)]))
  refine own_back ?_ (own_len X4 hx hZ e4 (VD.keep K4 nin0) (g := (mkF m 23 #[.val (.ref aD), .val (.int pN), .val (.ref b4)] [(.ref aD), (.int (0 : Int32)), (.ref b4), (.int (0 : Int32)), (.ref aD)])) rfl rfl (hb hby d10_23))
  show own_Go p e below PO (T4.setTop (mkF m 24 #[.val (.ref aD), .val (.int pN), .val (.ref b4)] [(.int zD), (.int (0 : Int32)), (.ref b4), (.int (0 : Int32)), (.ref aD)]))
  refine own_back ?_ (fun t k => XS.iloadN X4.here hx rfl (hb hby d10_24) rfl k)
  show own_Go p e below PO (T4.setTop (mkF m 25 #[.val (.ref aD), .val (.int pN), .val (.ref b4)] [(.int pN), (.int zD), (.int (0 : Int32)), (.ref b4), (.int (0 : Int32)), (.ref aD)]))
  obtain ⟨_, _, ⟨T5, L5, k5, n5⟩, -, X5, ⟨Lc5, hQ5, l5, y5, z5⟩, st5⟩ := Jvm.LawKit.callS X4 hx (y := (⟨"java/lang/Math", "min", "(II)I"⟩ : MethodName)) hown (mvT hZ (hw _ (List.mem_of_getElem? (i := 69) rfl))) (mvT hZ (hw _ (List.mem_of_getElem? (i := 41) rfl))) (mvT hZ (hw _ (List.mem_of_getElem? (i := 38) rfl))) (mvT hZ (hw _ (List.mem_of_getElem? (i := 42) rfl))) (by decide) (backOf (W := 4) (rm7 l Z a0 hw [] zD pN  h4 n0 Zh4 ) hZ (hw _ (List.mem_of_getElem? (i := 42) rfl)) (hw _ (List.mem_of_getElem? (i := 38) rfl)) (by decide) (by decide)) (g := (mkF m 25 #[.val (.ref aD), .val (.int pN), .val (.ref b4)] [(.int pN), (.int zD), (.int (0 : Int32)), (.ref b4), (.int (0 : Int32)), (.ref aD)])) rfl (by rw [hml]; rfl) (argsL := [(.int zD), (.int pN)]) (rest := [(.int (0 : Int32)), (.ref b4), (.int (0 : Int32)), (.ref aD)]) (lenOf pd_0 rfl) rfl (by show 2 * 0 + _ ≤ _; exact Nat.le_of_eq rfl) (hb hby d10_25) (fun _ _ => ⟨rfl, e4, (by decide : 1 + 0 ≤ _), (by decide : 16384 + 0 ≤ _)⟩)
  dsimp only [Pt.U, Pt.locs, Pt.cells, Pt.slots] at X5 l5 y5 z5 st5 hQ5
  subst l5 y5 z5
  obtain ⟨rfl, N5q, e5⟩ := hQ5
  have N5 := Fr.app N0 N5q
  refine own_back ?_ st5
  show own_Go p e below PO (T5.setTop (mkF m 28 #[.val (.ref aD), .val (.int pN), .val (.ref b4)] [(.int (own_min zD pN)), (.int (0 : Int32)), (.ref b4), (.int (0 : Int32)), (.ref aD)]))
  refine own_gen (A := Int32) (own_min zD pN) (fun r25_6 => own_Go p e below PO (T5.setTop (mkF m 28 #[.val (.ref aD), .val (.int pN), .val (.ref b4)] [(.int r25_6), (.int (0 : Int32)), (.ref b4), (.int (0 : Int32)), (.ref aD)]))) ?_
  intro r25_6 h_r25_6
  show own_Go p e below PO (T5.setTop (mkF m 28 #[.val (.ref aD), .val (.int pN), .val (.ref b4)] [(.int r25_6), (.int (0 : Int32)), (.ref b4), (.int (0 : Int32)), (.ref aD)]))
  obtain ⟨mn0, mnA, mnB⟩ := own_min1 nnD (own_nneg hN.1)
  rw [← h_r25_6] at mn0 mnA mnB
  have VP := V4.pad (pad_rep [] (.int (0 : Int32)) pN.toNatClampNeg)
  obtain ⟨T7, h7, L7, X7, e7, N7, Kc7, V7, st7⟩ := cpA X5 hx hZ hown (hw _ (List.mem_of_getElem? (i := 70) rfl)) (hw _ (List.mem_of_getElem? (i := 73) rfl)) (hw _ (List.mem_of_getElem? (i := 71) rfl)) (hw _ (List.mem_of_getElem? (i := 72) rfl)) e5 (VD.keep K4 nin0) VP (Or.inl ⟨rfl, rfl⟩) (by decide) (by decide) mn0 (by show 0 + _ ≤ _; omega) (by show 0 + _ ≤ _; omega) rfl (by show 0 + _ ≤ _; simp; exact mnB) N5 gn_b4 (g := (mkF m 28 #[.val (.ref aD), .val (.int pN), .val (.ref b4)] [(.int r25_6), (.int (0 : Int32)), (.ref b4), (.int (0 : Int32)), (.ref aD)])) rfl (by rw [hml]; rfl) rfl (hb hby d10_28) (by decide) (W := 0) (by show 2 * 0 + _ ≤ _; exact Nat.le_of_eq rfl) (by decide)
  have f7_8 := Ex4.keep Kc7
  have K7 : Keep h0 h7 [] := (K4).trans Kc7 (allS (Or.inr sz_b4) all0)
  have Zh7 : n0 ≤ h7.size := Nat.le_trans Z0 K7.1
  refine own_back ?_ st7
  show own_Go p e below PO (T7.setTop (mkF m 31 #[.val (.ref aD), .val (.int pN), .val (.ref b4)] []))
  refine own_back ?_ (fun t k => XS.aloadN X7.here hx rfl (hb hby d10_31) rfl rfl k)
  show own_Go p e below PO (T7.setTop (mkF m 32 #[.val (.ref aD), .val (.int pN), .val (.ref b4)] [(.ref b4)]))
  refine own_retA X7 hx (w := (.ref b4)) (rest := []) Bd.returns rfl rfl (hb hby d10_32) e7 (Bd.notSynchronized) ?_ (by decide) (by decide)
  exact ⟨b4, rfl, N7, K7, sz_b4, f7_8, _, _, _, V7⟩
theorem ef_rmCp_32768 (m : MethodId) (x0 : Addr) (x1 : Int32) : entryFrame m #[(.ref x0), (.int x1)] 3 = mkF m 0 #[.val (.ref x0), .val (.int x1), .unset] [] := by first | (simp [entryFrame, mkF, argsToLocals, Value.category]; done) | rfl
def Q_rmCp_32768 (Z : State) (pN : Int32) (h0 : Heap) (n0 : Nat) (v : Option Value) (h : Heap) (L : List Loc) : Prop := ∃ aN : Addr, v = some (.ref aN) ∧ Fr n0 L ∧ Keep h0 h [] ∧ h0.size ≤ aN ∧ own_Len Z h aN pN
set_option maxRecDepth 65536 in
set_option maxHeartbeats 40000000 in
theorem rmCp_32768 (l : Launch) (Z : State) (a0 : Array Value) (hw : ∀ d ∈ tables_1, d.before a0 Z = true) (ws : List Jvm.Cond) (aD : Addr) (pN : Int32) (zD : Int32) (h0 : Heap) (n0 : Nat) (Z0 : n0 ≤ h0.size) (LD : own_Len Z h0 aD zD) (nnD : ¬ zD < 0) (hN : 0 ≤ pN.toInt ∧ pN.toInt ≤ 32768) :
    MetFree l (⟨"java/util/Arrays", "copyOf", "([BI)[B"⟩ : MethodName) (head1 (Jvm.Cond.code (⟨"java/util/Arrays", "copyOf", "([BI)[B"⟩ : MethodName) jdk_65_method_121_code 3 (some (.array .byte)) :: ws) ({ frames := 1, cells := 1, slots := 32768, locals := 18 } : Room)) (fun a U => a = #[(.ref aD), (.int pN)] ∧ Z.Warmed39 U.vm ∧ U.heap = h0) (fun _ _ _ _ _ => True) (fun _ U o U' => ∃ v L, o = .returned v ∧ Q_rmCp_32768 Z pN h0 n0 v U'.heap L ∧ FrameEnd U o U' L ({ frames := 1, cells := 1, slots := 32768, locals := 18 } : Room).cells ({ frames := 1, cells := 1, slots := 32768, locals := 18 } : Room).slots) := by
  refine MetFree.of_bodySF (plainFor_of_name pn_0) hisR ?_
  intro p e s m args below meth c s₁ Bd hml0 hP hK
  obtain ⟨rfl, hZ, hh⟩ := hP
  have hx := Bd.exec
  have hby := Bd.bytes
  have hml : c.maxLocals = 3 := hml0
  have hown : s.vm.findClass "java/util/Arrays" = some m.cls := findClass_of_methodNamed Bd.named
  have hnm := (name_of_methodNamed Bd.named Bd.method).1
  have X0 : Stand p l e ({ frames := 1, cells := 1, slots := 32768, locals := 18 } : Room) s m #[(.ref aD), (.int pN)] below meth c s₁ [] 0 0 := Stand.of_body Bd
  have e0 : s₁.heap = h0 := by rw [← hh, Bd.state]; rfl
  have N0 := Fr.nil n0
  let PO : Outcome → State → Prop := own_PO s (Q_rmCp_32768 Z pN h0 n0) 1 32768
  show own_Go p e below PO (s₁.setTop (entryFrame m #[(.ref aD), (.int pN)] 3))
  rw [ef_rmCp_32768]
  obtain ⟨ED, kD, vsD, dD, VD⟩ := LD
  show own_Go p e below PO (s₁.setTop (mkF m 0 #[.val (.ref aD), .val (.int pN), .unset] []))
  refine own_back ?_ (fun t k => XS.iloadN X0.here hx rfl (hb hby d10_0) rfl k)
  show own_Go p e below PO (s₁.setTop (mkF m 1 #[.val (.ref aD), .val (.int pN), .unset] [(.int pN)]))
  refine own_back ?_ (fun t k => XS.aloadN X0.here hx rfl (hb hby d10_1) rfl rfl k)
  show own_Go p e below PO (s₁.setTop (mkF m 2 #[.val (.ref aD), .val (.int pN), .unset] [(.ref aD), (.int pN)]))
  refine own_back ?_ (own_len X0 hx hZ e0 VD (g := (mkF m 2 #[.val (.ref aD), .val (.int pN), .unset] [(.ref aD), (.int pN)])) rfl rfl (hb hby d10_2))
  show own_Go p e below PO (s₁.setTop (mkF m 3 #[.val (.ref aD), .val (.int pN), .unset] [(.int zD), (.int pN)]))
  by_cases hc3_1 : pN = zD
  case pos =>
    refine own_back ?_ (fun t k => XS.icmpNo X0.here hx rfl (hb hby d10_3) rfl (teq hc3_1).2 k)
    show own_Go p e below PO (s₁.setTop (mkF m 6 #[.val (.ref aD), .val (.int pN), .unset] []))
    refine own_back ?_ (fun t k => XS.aloadN X0.here hx rfl (hb hby d10_6) rfl rfl k)
    show own_Go p e below PO (s₁.setTop (mkF m 7 #[.val (.ref aD), .val (.int pN), .unset] [(.ref aD)]))
    obtain ⟨T2, h2, X2, e2, E2, A2, Ex2, st2⟩ := cloneH X0 hx hZ hown (hw _ (List.mem_of_getElem? (i := 60) rfl)) (hw _ (List.mem_of_getElem? (i := 61) rfl)) (hw _ (List.mem_of_getElem? (i := 65) rfl)) (hw _ (List.mem_of_getElem? (i := 63) rfl)) (hw _ (List.mem_of_getElem? (i := 64) rfl)) (hw _ (List.mem_of_getElem? (i := 66) rfl)) e0 (VD).arh ED (g := (mkF m 7 #[.val (.ref aD), .val (.int pN), .unset] [(.ref aD)])) rfl (by rw [hml]; rfl) rfl (hb hby d10_7) (by decide) (W := 0) (by show 2 * 0 + _ ≤ _; exact Nat.le_of_eq rfl) (by decide) (cap := 32768) (own_capI (by rw [← hc3_1]; exact hN.2)) (by decide) (by decide)
    obtain ⟨b2, g2⟩ : ∃ z, z = h0.size := ⟨_, rfl⟩
    rw [← g2] at A2 Ex2 st2
    have ne_aD_b2 : aD ≠ b2 := Nat.ne_of_lt (Nat.lt_of_lt_of_le ED.lt (Nat.le_of_eq g2.symm))
    have sz_b2 : h0.size ≤ b2 := Nat.le_of_eq g2.symm
    have gn_b2 : n0 ≤ b2 := Nat.le_trans Z0 sz_b2
    have K2 : Keep h0 h2 [] := (Keep.refl h0 []).ext E2
    have Zh2 : n0 ≤ h2.size := Nat.le_trans Z0 K2.1
    have V2 : Arv Z h2 b2 kD .byte zD vsD dD := A2
    refine own_back ?_ st2
    show own_Go p e below PO (T2.setTop (mkF m 10 #[.val (.ref aD), .val (.int pN), .unset] [(.ref b2)]))
    obtain ⟨T3, X3, e3, st3⟩ := castY X2 hx hZ hown (hw _ (List.mem_of_getElem? (i := 67) rfl)) e2 (Ins.self Ex2) (g := (mkF m 10 #[.val (.ref aD), .val (.int pN), .unset] [(.ref b2)])) rfl rfl (hb hby d10_10)
    refine own_back ?_ st3
    show own_Go p e below PO (T3.setTop (mkF m 13 #[.val (.ref aD), .val (.int pN), .unset] [(.ref b2)]))
    refine own_retA X3 hx (w := (.ref b2)) (rest := []) Bd.returns rfl rfl (hb hby d10_13) e3 (Bd.notSynchronized) ?_ (by decide) (by decide)
    exact ⟨b2, rfl, N0, K2, sz_b2, Ex2, _, _, _, hc3_1.symm ▸ V2⟩
  refine own_back ?_ (fun t k => XS.icmpYes X0.here hx rfl (pc0 := 3) (pc' := 14) rfl (hb hby d10_3) rfl (feq hc3_1).2 (by decide) (by decide) k)
  show own_Go p e below PO (s₁.setTop (mkF m 14 #[.val (.ref aD), .val (.int pN), .unset] []))
  refine own_back ?_ (fun t k => XS.iloadN X0.here hx rfl (hb hby d10_14) rfl k)
  show own_Go p e below PO (s₁.setTop (mkF m 15 #[.val (.ref aD), .val (.int pN), .unset] [(.int pN)]))
  obtain ⟨T4, h4, k4, X4, e4, E4, A4, Ex4, st4⟩ := newPE X0 hx hZ (hw _ (List.mem_of_getElem? (i := 15) rfl)) e0 (g := (mkF m 15 #[.val (.ref aD), .val (.int pN), .unset] [(.int pN)])) rfl (hb hby d10_15) rfl (own_nneg hN.1) (cap := 32768) (own_capI hN.2) (by decide) (by decide) (by decide) (ad := "[B") (by decide)
  obtain ⟨b4, g4⟩ : ∃ z, z = h0.size := ⟨_, rfl⟩
  rw [← g4] at A4 Ex4 st4
  have ne_aD_b4 : aD ≠ b4 := Nat.ne_of_lt (Nat.lt_of_lt_of_le ED.lt (Nat.le_of_eq g4.symm))
  have sz_b4 : h0.size ≤ b4 := Nat.le_of_eq g4.symm
  have gn_b4 : n0 ≤ b4 := Nat.le_trans Z0 sz_b4
  have K4 : Keep h0 h4 [] := (Keep.refl h0 []).ext E4
  have Zh4 : n0 ≤ h4.size := Nat.le_trans Z0 K4.1
  have V4 : Arv Z h4 b4 k4 .byte pN [] (.int (0 : Int32)) := (Arv.new A4 (own_nneg hN.1))
  refine own_back ?_ st4
  show own_Go p e below PO (T4.setTop (mkF m 17 #[.val (.ref aD), .val (.int pN), .unset] [(.ref b4)]))
  refine own_back ?_ (fun t k => XS.astoreN X4.here hx rfl (hb hby d10_17) rfl rfl (l' := #[.val (.ref aD), .val (.int pN), .val (.ref b4)]) rfl k)
  show own_Go p e below PO (T4.setTop (mkF m 18 #[.val (.ref aD), .val (.int pN), .val (.ref b4)] []))
  refine own_back ?_ (fun t k => XS.aloadN X4.here hx rfl (hb hby d10_18) rfl rfl k)
  show own_Go p e below PO (T4.setTop (mkF m 19 #[.val (.ref aD), .val (.int pN), .val (.ref b4)] [(.ref aD)]))
  refine own_back ?_ (fun t k => XS.iconst X4.here hx rfl (hb hby d10_19) k)
  show own_Go p e below PO (T4.setTop (mkF m 20 #[.val (.ref aD), .val (.int pN), .val (.ref b4)] [(.int (0 : Int32)), (.ref aD)]))
  refine own_back ?_ (fun t k => XS.aloadN X4.here hx rfl (hb hby d10_20) rfl rfl k)
  show own_Go p e below PO (T4.setTop (mkF m 21 #[.val (.ref aD), .val (.int pN), .val (.ref b4)] [(.ref b4), (.int (0 : Int32)), (.ref aD)]))
  refine own_back ?_ (fun t k => XS.iconst X4.here hx rfl (hb hby d10_21) k)
  show own_Go p e below PO (T4.setTop (mkF m 22 #[.val (.ref aD), .val (.int pN), .val (.ref b4)] [(.int (0 : Int32)), (.ref b4), (.int (0 : Int32)), (.ref aD)]))
  refine own_back ?_ (fun t k => XS.aloadN X4.here hx rfl (hb hby d10_22) rfl rfl k)
  show own_Go p e below PO (T4.setTop (mkF m 23 #[.val (.ref aD), .val (.int pN), .val (.ref b4)] [(.ref aD), (.int (0 : Int32)), (.ref b4), (.int (0 : Int32)), (.ref aD)]))
  refine own_back ?_ (own_len X4 hx hZ e4 (VD.keep K4 nin0) (g := (mkF m 23 #[.val (.ref aD), .val (.int pN), .val (.ref b4)] [(.ref aD), (.int (0 : Int32)), (.ref b4), (.int (0 : Int32)), (.ref aD)])) rfl rfl (hb hby d10_23))
  show own_Go p e below PO (T4.setTop (mkF m 24 #[.val (.ref aD), .val (.int pN), .val (.ref b4)] [(.int zD), (.int (0 : Int32)), (.ref b4), (.int (0 : Int32)), (.ref aD)]))
  refine own_back ?_ (fun t k => XS.iloadN X4.here hx rfl (hb hby d10_24) rfl k)
  show own_Go p e below PO (T4.setTop (mkF m 25 #[.val (.ref aD), .val (.int pN), .val (.ref b4)] [(.int pN), (.int zD), (.int (0 : Int32)), (.ref b4), (.int (0 : Int32)), (.ref aD)]))
  obtain ⟨_, _, ⟨T5, L5, k5, n5⟩, -, X5, ⟨Lc5, hQ5, l5, y5, z5⟩, st5⟩ := Jvm.LawKit.callS X4 hx (y := (⟨"java/lang/Math", "min", "(II)I"⟩ : MethodName)) hown (mvT hZ (hw _ (List.mem_of_getElem? (i := 69) rfl))) (mvT hZ (hw _ (List.mem_of_getElem? (i := 41) rfl))) (mvT hZ (hw _ (List.mem_of_getElem? (i := 38) rfl))) (mvT hZ (hw _ (List.mem_of_getElem? (i := 42) rfl))) (by decide) (backOf (W := 4) (rm7 l Z a0 hw [] zD pN  h4 n0 Zh4 ) hZ (hw _ (List.mem_of_getElem? (i := 42) rfl)) (hw _ (List.mem_of_getElem? (i := 38) rfl)) (by decide) (by decide)) (g := (mkF m 25 #[.val (.ref aD), .val (.int pN), .val (.ref b4)] [(.int pN), (.int zD), (.int (0 : Int32)), (.ref b4), (.int (0 : Int32)), (.ref aD)])) rfl (by rw [hml]; rfl) (argsL := [(.int zD), (.int pN)]) (rest := [(.int (0 : Int32)), (.ref b4), (.int (0 : Int32)), (.ref aD)]) (lenOf pd_0 rfl) rfl (by show 2 * 0 + _ ≤ _; exact Nat.le_of_eq rfl) (hb hby d10_25) (fun _ _ => ⟨rfl, e4, (by decide : 1 + 0 ≤ _), (by decide : 32768 + 0 ≤ _)⟩)
  dsimp only [Pt.U, Pt.locs, Pt.cells, Pt.slots] at X5 l5 y5 z5 st5 hQ5
  subst l5 y5 z5
  obtain ⟨rfl, N5q, e5⟩ := hQ5
  have N5 := Fr.app N0 N5q
  refine own_back ?_ st5
  show own_Go p e below PO (T5.setTop (mkF m 28 #[.val (.ref aD), .val (.int pN), .val (.ref b4)] [(.int (own_min zD pN)), (.int (0 : Int32)), (.ref b4), (.int (0 : Int32)), (.ref aD)]))
  refine own_gen (A := Int32) (own_min zD pN) (fun r25_6 => own_Go p e below PO (T5.setTop (mkF m 28 #[.val (.ref aD), .val (.int pN), .val (.ref b4)] [(.int r25_6), (.int (0 : Int32)), (.ref b4), (.int (0 : Int32)), (.ref aD)]))) ?_
  intro r25_6 h_r25_6
  show own_Go p e below PO (T5.setTop (mkF m 28 #[.val (.ref aD), .val (.int pN), .val (.ref b4)] [(.int r25_6), (.int (0 : Int32)), (.ref b4), (.int (0 : Int32)), (.ref aD)]))
  obtain ⟨mn0, mnA, mnB⟩ := own_min1 nnD (own_nneg hN.1)
  rw [← h_r25_6] at mn0 mnA mnB
  have VP := V4.pad (pad_rep [] (.int (0 : Int32)) pN.toNatClampNeg)
  obtain ⟨T7, h7, L7, X7, e7, N7, Kc7, V7, st7⟩ := cpA X5 hx hZ hown (hw _ (List.mem_of_getElem? (i := 70) rfl)) (hw _ (List.mem_of_getElem? (i := 73) rfl)) (hw _ (List.mem_of_getElem? (i := 71) rfl)) (hw _ (List.mem_of_getElem? (i := 72) rfl)) e5 (VD.keep K4 nin0) VP (Or.inl ⟨rfl, rfl⟩) (by decide) (by decide) mn0 (by show 0 + _ ≤ _; omega) (by show 0 + _ ≤ _; omega) rfl (by show 0 + _ ≤ _; simp; exact mnB) N5 gn_b4 (g := (mkF m 28 #[.val (.ref aD), .val (.int pN), .val (.ref b4)] [(.int r25_6), (.int (0 : Int32)), (.ref b4), (.int (0 : Int32)), (.ref aD)])) rfl (by rw [hml]; rfl) rfl (hb hby d10_28) (by decide) (W := 0) (by show 2 * 0 + _ ≤ _; exact Nat.le_of_eq rfl) (by decide)
  have f7_8 := Ex4.keep Kc7
  have K7 : Keep h0 h7 [] := (K4).trans Kc7 (allS (Or.inr sz_b4) all0)
  have Zh7 : n0 ≤ h7.size := Nat.le_trans Z0 K7.1
  refine own_back ?_ st7
  show own_Go p e below PO (T7.setTop (mkF m 31 #[.val (.ref aD), .val (.int pN), .val (.ref b4)] []))
  refine own_back ?_ (fun t k => XS.aloadN X7.here hx rfl (hb hby d10_31) rfl rfl k)
  show own_Go p e below PO (T7.setTop (mkF m 32 #[.val (.ref aD), .val (.int pN), .val (.ref b4)] [(.ref b4)]))
  refine own_retA X7 hx (w := (.ref b4)) (rest := []) Bd.returns rfl rfl (hb hby d10_32) e7 (Bd.notSynchronized) ?_ (by decide) (by decide)
  exact ⟨b4, rfl, N7, K7, sz_b4, f7_8, _, _, _, V7⟩
theorem d2_0 : decode prog_6_method_1_code 0 = .ok (.aload_n 0, 1) := by decide +kernel
theorem d2_1 : decode prog_6_method_1_code 1 = .ok (.invokespecial 1, 3) := by decide +kernel
theorem d2_4 : decode prog_6_method_1_code 4 = .ok (.aload_n 0, 1) := by decide +kernel
theorem d2_5 : decode prog_6_method_1_code 5 = .ok (.iconst 0, 1) := by decide +kernel
theorem d2_6 : decode prog_6_method_1_code 6 = .ok (.newarray .byte, 2) := by decide +kernel
theorem d2_8 : decode prog_6_method_1_code 8 = .ok (.putfield 7, 3) := by decide +kernel
theorem d2_11 : decode prog_6_method_1_code 11 = .ok (.aload_n 0, 1) := by decide +kernel
theorem d2_12 : decode prog_6_method_1_code 12 = .ok (.iload_n 1, 1) := by decide +kernel
theorem d2_13 : decode prog_6_method_1_code 13 = .ok (.putfield 13, 3) := by decide +kernel
theorem d2_16 : decode prog_6_method_1_code 16 = .ok (.aload_n 0, 1) := by decide +kernel
theorem d2_17 : decode prog_6_method_1_code 17 = .ok (.iload_n 2, 1) := by decide +kernel
theorem d2_18 : decode prog_6_method_1_code 18 = .ok (.putfield 17, 3) := by decide +kernel
theorem d2_21 : decode prog_6_method_1_code 21 = .ok (.aload_n 0, 1) := by decide +kernel
theorem d2_22 : decode prog_6_method_1_code 22 = .ok (.aload_n 3, 1) := by decide +kernel
theorem d2_23 : decode prog_6_method_1_code 23 = .ok (.putfield 21, 3) := by decide +kernel
theorem d2_26 : decode prog_6_method_1_code 26 = .ok (.aload_n 0, 1) := by decide +kernel
theorem d2_27 : decode prog_6_method_1_code 27 = .ok (.lload 4, 2) := by decide +kernel
theorem d2_29 : decode prog_6_method_1_code 29 = .ok (.putfield 25, 3) := by decide +kernel
theorem d2_32 : decode prog_6_method_1_code 32 = .ok (.return_, 1) := by decide +kernel
theorem pn_1 : plainName "com/example/execd/execd/io/BodyReader" = true := by first | (simp [plainName, overriddenIn]; done) | decide +kernel
theorem ef_rmInit (m : MethodId) (x0 : Addr) (x1 : Int32) (x2 : Int32) (x3 : Addr) (x4 : Int64) : entryFrame m #[(.ref x0), (.int x1), (.int x2), (.ref x3), (.long x4)] 6 = mkF m 0 #[.val (.ref x0), .val (.int x1), .val (.int x2), .val (.ref x3), .val (.long x4), .second] [] := by first | (simp [entryFrame, mkF, argsToLocals, Value.category]; done) | rfl
def Q_rmInit (Z : State) (aB : Addr) (pL : Int32) (h0 : Heap) (n0 : Nat) (v : Option Value) (h : Heap) (L : List Loc) : Prop := v = none ∧ Fr n0 L ∧ Keep h0 h [aB] ∧ ∃ aD : Addr, h0.size ≤ aD ∧ Fld Z h aB "com/example/execd/execd/io/BodyReader" "data" "[B" (.ref aD) ∧ Fld Z h aB "com/example/execd/execd/io/BodyReader" "limit" "I" (.int pL) ∧ Fld Z h aB "com/example/execd/execd/io/BodyReader" "length" "I" (.int 0) ∧ own_Len Z h aD 0
set_option maxRecDepth 65536 in
set_option maxHeartbeats 40000000 in
theorem rmInit (l : Launch) (Z : State) (a0 : Array Value) (hw : ∀ d ∈ tables_1, d.before a0 Z = true) (ws : List Jvm.Cond) (aB : Addr) (pL : Int32) (aS : Addr) (jL : Int64)  (h0 : Heap) (n0 : Nat) (Z0 : n0 ≤ h0.size) (E_B : Exa Z h0 aB "com/example/execd/execd/io/BodyReader") (F_data : Fld Z h0 aB "com/example/execd/execd/io/BodyReader" "data" "[B" .null) (F_chunked : Fld Z h0 aB "com/example/execd/execd/io/BodyReader" "chunked" "Z" (.int (0 : Int32))) (F_limit : Fld Z h0 aB "com/example/execd/execd/io/BodyReader" "limit" "I" (.int (0 : Int32))) (F_step : Fld Z h0 aB "com/example/execd/execd/io/BodyReader" "step" "Lcom/example/execd/execd/io/BodyReader$Step;" .null) (F_left : Fld Z h0 aB "com/example/execd/execd/io/BodyReader" "left" "J" (.long (0 : Int64))) (F_length : Fld Z h0 aB "com/example/execd/execd/io/BodyReader" "length" "I" (.int (0 : Int32))) (gn_aB : n0 ≤ aB) :
    MetFree l (⟨"com/example/execd/execd/io/BodyReader", "<init>", "(ZILcom/example/execd/execd/io/BodyReader$Step;J)V"⟩ : MethodName) (head1 (Jvm.Cond.code (⟨"com/example/execd/execd/io/BodyReader", "<init>", "(ZILcom/example/execd/execd/io/BodyReader$Step;J)V"⟩ : MethodName) prog_6_method_1_code 6 none :: ws) ({ frames := 1, cells := 1, slots := 0, locals := 12 } : Room)) (fun a U => a = #[(.ref aB), (.int (1 : Int32)), (.int pL), (.ref aS), (.long jL)] ∧ Z.Warmed39 U.vm ∧ U.heap = h0) (fun _ _ _ _ _ => True) (fun _ U o U' => ∃ v L, o = .returned v ∧ Q_rmInit Z aB pL h0 n0 v U'.heap L ∧ FrameEnd U o U' L ({ frames := 1, cells := 1, slots := 0, locals := 12 } : Room).cells ({ frames := 1, cells := 1, slots := 0, locals := 12 } : Room).slots) := by
  refine MetFree.of_bodySF (plainFor_of_name pn_1) hisR ?_
  intro p e s m args below meth c s₁ Bd hml0 hP hK
  obtain ⟨rfl, hZ, hh⟩ := hP
  have hx := Bd.exec
  have hby := Bd.bytes
  have hml : c.maxLocals = 6 := hml0
  have hown : s.vm.findClass "com/example/execd/execd/io/BodyReader" = some m.cls := findClass_of_methodNamed Bd.named
  have hnm := (name_of_methodNamed Bd.named Bd.method).1
  have X0 : Stand p l e ({ frames := 1, cells := 1, slots := 0, locals := 12 } : Room) s m #[(.ref aB), (.int (1 : Int32)), (.int pL), (.ref aS), (.long jL)] below meth c s₁ [] 0 0 := Stand.of_body Bd
  have e0 : s₁.heap = h0 := by rw [← hh, Bd.state]; rfl
  have N0 := Fr.nil n0
  let PO : Outcome → State → Prop := own_PO s (Q_rmInit Z aB pL h0 n0) 1 0
  show own_Go p e below PO (s₁.setTop (entryFrame m #[(.ref aB), (.int (1 : Int32)), (.int pL), (.ref aS), (.long jL)] 6))
  rw [ef_rmInit]
  show own_Go p e below PO (s₁.setTop (mkF m 0 #[.val (.ref aB), .val (.int (1 : Int32)), .val (.int pL), .val (.ref aS), .val (.long jL), .second] []))
  refine own_back ?_ (fun t k => XS.aloadN X0.here hx rfl (hb hby d2_0) rfl rfl k)
  show own_Go p e below PO (s₁.setTop (mkF m 1 #[.val (.ref aB), .val (.int (1 : Int32)), .val (.int pL), .val (.ref aS), .val (.long jL), .second] [(.ref aB)]))
  obtain ⟨T1, X1, e1, st1⟩ := initO X0 hx hZ hown (hw _ (List.mem_of_getElem? (i := 12) rfl)) (hw _ (List.mem_of_getElem? (i := 13) rfl)) (hw _ (List.mem_of_getElem? (i := 14) rfl)) e0 (g := (mkF m 1 #[.val (.ref aB), .val (.int (1 : Int32)), .val (.int pL), .val (.ref aS), .val (.long jL), .second] [(.ref aB)])) rfl (by rw [hml]; rfl) rfl (hb hby d2_1) (by decide) (W := 0) (by show 2 * 0 + _ ≤ _; exact Nat.le_of_eq rfl) (by decide)
  refine own_back ?_ st1
  show own_Go p e below PO (T1.setTop (mkF m 4 #[.val (.ref aB), .val (.int (1 : Int32)), .val (.int pL), .val (.ref aS), .val (.long jL), .second] []))
  refine own_back ?_ (fun t k => XS.aloadN X1.here hx rfl (hb hby d2_4) rfl rfl k)
  show own_Go p e below PO (T1.setTop (mkF m 5 #[.val (.ref aB), .val (.int (1 : Int32)), .val (.int pL), .val (.ref aS), .val (.long jL), .second] [(.ref aB)]))
  refine own_back ?_ (fun t k => XS.iconst X1.here hx rfl (hb hby d2_5) k)
  show own_Go p e below PO (T1.setTop (mkF m 6 #[.val (.ref aB), .val (.int (1 : Int32)), .val (.int pL), .val (.ref aS), .val (.long jL), .second] [(.int (0 : Int32)), (.ref aB)]))
  obtain ⟨T2, h2, k2, X2, e2, E2, A2, Ex2, st2⟩ := newPE X1 hx hZ (hw _ (List.mem_of_getElem? (i := 15) rfl)) e1 (g := (mkF m 6 #[.val (.ref aB), .val (.int (1 : Int32)), .val (.int pL), .val (.ref aS), .val (.long jL), .second] [(.int (0 : Int32)), (.ref aB)])) rfl (hb hby d2_6) rfl (by decide) (cap := 0) (by decide) (by decide) (by decide) (by decide) (ad := "[B") (by decide)
  obtain ⟨b2, g2⟩ : ∃ z, z = h0.size := ⟨_, rfl⟩
  rw [← g2] at A2 Ex2 st2
  have ne_aB_b2 : aB ≠ b2 := Nat.ne_of_lt (Nat.lt_of_lt_of_le E_B.lt (Nat.le_of_eq g2.symm))
  have sz_b2 : h0.size ≤ b2 := Nat.le_of_eq g2.symm
  have gn_b2 : n0 ≤ b2 := Nat.le_trans Z0 sz_b2
  have K2 : Keep h0 h2 [] := (Keep.refl h0 []).ext E2
  have Zh2 : n0 ≤ h2.size := Nat.le_trans Z0 K2.1
  have V2 : Arv Z h2 b2 k2 .byte (0 : Int32) [] (.int (0 : Int32)) := (Arv.new A2 (by decide))
  refine own_back ?_ st2
  show own_Go p e below PO (T2.setTop (mkF m 8 #[.val (.ref aB), .val (.int (1 : Int32)), .val (.int pL), .val (.ref aS), .val (.long jL), .second] [(.ref b2), (.ref aB)]))
  obtain ⟨T3, h3, X3, e3, W3, st3⟩ := putF X2 hx hZ hown (host := "") (Or.inl (hw _ (List.mem_of_getElem? (i := 16) rfl))) Via.refl e2 (F_data.keep K2 nin0) (E_B.keep K2) (Or.inl (hw _ (List.mem_of_getElem? (i := 17) rfl))) (hw _ (List.mem_of_getElem? (i := 5) rfl)) (ty := (.array .byte)) (by decide) rfl rfl (g := (mkF m 8 #[.val (.ref aB), .val (.int (1 : Int32)), .val (.int pL), .val (.ref aS), .val (.long jL), .second] [(.ref b2), (.ref aB)])) rfl rfl (hb hby d2_8)
  have Fw3 := (F_data.keep K2 nin0).same W3
  have f3_4 := Ex2.wr W3
  have f3_5 := V2.other W3 (Ne.symm ne_aB_b2)
  have f3_6 := (E_B.keep K2).wr W3
  have f3_7 := (F_chunked.keep K2 nin0).other W3 (Or.inr (slot_ne (Or.inr (hw _ (List.mem_of_getElem? (i := 19) rfl))) (Or.inl (hw _ (List.mem_of_getElem? (i := 17) rfl))) (by decide) (t := .boolean) (t' := (.array .byte)) (by decide) (by decide)))
  have f3_8 := (F_limit.keep K2 nin0).other W3 (Or.inr (slot_ne (Or.inr (hw _ (List.mem_of_getElem? (i := 21) rfl))) (Or.inl (hw _ (List.mem_of_getElem? (i := 17) rfl))) (by decide) (t := .int) (t' := (.array .byte)) (by decide) (by decide)))
  have f3_9 := (F_step.keep K2 nin0).other W3 (Or.inr (slot_ne (Or.inl (hw _ (List.mem_of_getElem? (i := 23) rfl))) (Or.inl (hw _ (List.mem_of_getElem? (i := 17) rfl))) (by decide) (t := (.object "com/example/execd/execd/io/BodyReader$Step")) (t' := (.array .byte)) (by decide) (by decide)))
  have f3_10 := (F_left.keep K2 nin0).other W3 (Or.inr (slot_ne (Or.inl (hw _ (List.mem_of_getElem? (i := 25) rfl))) (Or.inl (hw _ (List.mem_of_getElem? (i := 17) rfl))) (by decide) (t := .long) (t' := (.array .byte)) (by decide) (by decide)))
  have f3_11 := (F_length.keep K2 nin0).other W3 (Or.inr (slot_ne (Or.inl (hw _ (List.mem_of_getElem? (i := 49) rfl))) (Or.inl (hw _ (List.mem_of_getElem? (i := 17) rfl))) (by decide) (t := .int) (t' := (.array .byte)) (by decide) (by decide)))
  have K3w : Keep h0 h2 [aB] := own_keep_more K2 (by simp)
  have K3 : Keep h0 h3 [aB] := (K3w).wr W3 (Or.inl (by simp))
  have N3 := Fr.snoc X3 N0 gn_aB
  have Zh3 : n0 ≤ h3.size := Nat.le_trans Z0 K3.1
  refine own_back ?_ st3
  show own_Go p e below PO (T3.setTop (mkF m 11 #[.val (.ref aB), .val (.int (1 : Int32)), .val (.int pL), .val (.ref aS), .val (.long jL), .second] []))
  refine own_back ?_ (fun t k => XS.aloadN X3.here hx rfl (hb hby d2_11) rfl rfl k)
  show own_Go p e below PO (T3.setTop (mkF m 12 #[.val (.ref aB), .val (.int (1 : Int32)), .val (.int pL), .val (.ref aS), .val (.long jL), .second] [(.ref aB)]))
  refine own_back ?_ (fun t k => XS.iloadN X3.here hx rfl (hb hby d2_12) rfl k)
  show own_Go p e below PO (T3.setTop (mkF m 13 #[.val (.ref aB), .val (.int (1 : Int32)), .val (.int pL), .val (.ref aS), .val (.long jL), .second] [(.int (1 : Int32)), (.ref aB)]))
  obtain ⟨T12, h12, X12, e12, W12, st12⟩ := putFN X3 hx hZ hown (hw _ (List.mem_of_getElem? (i := 18) rfl)) Via.refl e3 f3_7 f3_6 (Or.inr ⟨(hw _ (List.mem_of_getElem? (i := 19) rfl)), rfl, hnm⟩) (hw _ (List.mem_of_getElem? (i := 5) rfl)) (ty := .boolean) (v' := (.int (1 : Int32))) (by decide) rfl (by decide) (g := (mkF m 13 #[.val (.ref aB), .val (.int (1 : Int32)), .val (.int pL), .val (.ref aS), .val (.long jL), .second] [(.int (1 : Int32)), (.ref aB)])) rfl rfl (hb hby d2_13)
  have Fw12 := f3_7.same W12
  have f12_13 := f3_4.wr W12
  have f12_14 := f3_5.other W12 (Ne.symm ne_aB_b2)
  have f12_15 := f3_6.wr W12
  have f12_16 := Fw3.other W12 (Or.inr (slot_ne (Or.inl (hw _ (List.mem_of_getElem? (i := 17) rfl))) (Or.inr (hw _ (List.mem_of_getElem? (i := 19) rfl))) (by decide) (t := (.array .byte)) (t' := .boolean) (by decide) (by decide)))
  have f12_17 := f3_8.other W12 (Or.inr (slot_ne (Or.inr (hw _ (List.mem_of_getElem? (i := 21) rfl))) (Or.inr (hw _ (List.mem_of_getElem? (i := 19) rfl))) (by decide) (t := .int) (t' := .boolean) (by decide) (by decide)))
  have f12_18 := f3_9.other W12 (Or.inr (slot_ne (Or.inl (hw _ (List.mem_of_getElem? (i := 23) rfl))) (Or.inr (hw _ (List.mem_of_getElem? (i := 19) rfl))) (by decide) (t := (.object "com/example/execd/execd/io/BodyReader$Step")) (t' := .boolean) (by decide) (by decide)))
  have f12_19 := f3_10.other W12 (Or.inr (slot_ne (Or.inl (hw _ (List.mem_of_getElem? (i := 25) rfl))) (Or.inr (hw _ (List.mem_of_getElem? (i := 19) rfl))) (by decide) (t := .long) (t' := .boolean) (by decide) (by decide)))
  have f12_20 := f3_11.other W12 (Or.inr (slot_ne (Or.inl (hw _ (List.mem_of_getElem? (i := 49) rfl))) (Or.inr (hw _ (List.mem_of_getElem? (i := 19) rfl))) (by decide) (t := .int) (t' := .boolean) (by decide) (by decide)))
  have K12 : Keep h0 h12 [aB] := (K3).wr W12 (Or.inl (by simp))
  have N12 := Fr.snoc X12 N3 gn_aB
  have Zh12 : n0 ≤ h12.size := Nat.le_trans Z0 K12.1
  refine own_back ?_ st12
  show own_Go p e below PO (T12.setTop (mkF m 16 #[.val (.ref aB), .val (.int (1 : Int32)), .val (.int pL), .val (.ref aS), .val (.long jL), .second] []))
  refine own_back ?_ (fun t k => XS.aloadN X12.here hx rfl (hb hby d2_16) rfl rfl k)
  show own_Go p e below PO (T12.setTop (mkF m 17 #[.val (.ref aB), .val (.int (1 : Int32)), .val (.int pL), .val (.ref aS), .val (.long jL), .second] [(.ref aB)]))
  refine own_back ?_ (fun t k => XS.iloadN X12.here hx rfl (hb hby d2_17) rfl k)
  show own_Go p e below PO (T12.setTop (mkF m 18 #[.val (.ref aB), .val (.int (1 : Int32)), .val (.int pL), .val (.ref aS), .val (.long jL), .second] [(.int pL), (.ref aB)]))
  obtain ⟨T21, h21, X21, e21, W21, st21⟩ := putF X12 hx hZ hown (host := "") (Or.inl (hw _ (List.mem_of_getElem? (i := 20) rfl))) Via.refl e12 f12_17 f12_15 (Or.inr ⟨(hw _ (List.mem_of_getElem? (i := 21) rfl)), rfl, hnm⟩) (hw _ (List.mem_of_getElem? (i := 5) rfl)) (ty := .int) (by decide) rfl rfl (g := (mkF m 18 #[.val (.ref aB), .val (.int (1 : Int32)), .val (.int pL), .val (.ref aS), .val (.long jL), .second] [(.int pL), (.ref aB)])) rfl rfl (hb hby d2_18)
  have Fw21 := f12_17.same W21
  have f21_22 := f12_13.wr W21
  have f21_23 := f12_14.other W21 (Ne.symm ne_aB_b2)
  have f21_24 := f12_15.wr W21
  have f21_25 := f12_16.other W21 (Or.inr (slot_ne (Or.inl (hw _ (List.mem_of_getElem? (i := 17) rfl))) (Or.inr (hw _ (List.mem_of_getElem? (i := 21) rfl))) (by decide) (t := (.array .byte)) (t' := .int) (by decide) (by decide)))
  have f21_26 := Fw12.other W21 (Or.inr (slot_ne (Or.inr (hw _ (List.mem_of_getElem? (i := 19) rfl))) (Or.inr (hw _ (List.mem_of_getElem? (i := 21) rfl))) (by decide) (t := .boolean) (t' := .int) (by decide) (by decide)))
  have f21_27 := f12_18.other W21 (Or.inr (slot_ne (Or.inl (hw _ (List.mem_of_getElem? (i := 23) rfl))) (Or.inr (hw _ (List.mem_of_getElem? (i := 21) rfl))) (by decide) (t := (.object "com/example/execd/execd/io/BodyReader$Step")) (t' := .int) (by decide) (by decide)))
  have f21_28 := f12_19.other W21 (Or.inr (slot_ne (Or.inl (hw _ (List.mem_of_getElem? (i := 25) rfl))) (Or.inr (hw _ (List.mem_of_getElem? (i := 21) rfl))) (by decide) (t := .long) (t' := .int) (by decide) (by decide)))
  have f21_29 := f12_20.other W21 (Or.inr (slot_ne (Or.inl (hw _ (List.mem_of_getElem? (i := 49) rfl))) (Or.inr (hw _ (List.mem_of_getElem? (i := 21) rfl))) (by decide) (t := .int) (t' := .int) (by decide) (by decide)))
  have K21 : Keep h0 h21 [aB] := (K12).wr W21 (Or.inl (by simp))
  have N21 := Fr.snoc X21 N12 gn_aB
  have Zh21 : n0 ≤ h21.size := Nat.le_trans Z0 K21.1
  refine own_back ?_ st21
  show own_Go p e below PO (T21.setTop (mkF m 21 #[.val (.ref aB), .val (.int (1 : Int32)), .val (.int pL), .val (.ref aS), .val (.long jL), .second] []))
  refine own_back ?_ (fun t k => XS.aloadN X21.here hx rfl (hb hby d2_21) rfl rfl k)
  show own_Go p e below PO (T21.setTop (mkF m 22 #[.val (.ref aB), .val (.int (1 : Int32)), .val (.int pL), .val (.ref aS), .val (.long jL), .second] [(.ref aB)]))
  refine own_back ?_ (fun t k => XS.aloadN X21.here hx rfl (hb hby d2_22) rfl rfl k)
  show own_Go p e below PO (T21.setTop (mkF m 23 #[.val (.ref aB), .val (.int (1 : Int32)), .val (.int pL), .val (.ref aS), .val (.long jL), .second] [(.ref aS), (.ref aB)]))
  obtain ⟨T30, h30, X30, e30, W30, st30⟩ := putF X21 hx hZ hown (host := "") (Or.inl (hw _ (List.mem_of_getElem? (i := 22) rfl))) Via.refl e21 f21_27 f21_24 (Or.inl (hw _ (List.mem_of_getElem? (i := 23) rfl))) (hw _ (List.mem_of_getElem? (i := 5) rfl)) (ty := (.object "com/example/execd/execd/io/BodyReader$Step")) (by decide) rfl rfl (g := (mkF m 23 #[.val (.ref aB), .val (.int (1 : Int32)), .val (.int pL), .val (.ref aS), .val (.long jL), .second] [(.ref aS), (.ref aB)])) rfl rfl (hb hby d2_23)
  have Fw30 := f21_27.same W30
  have f30_31 := f21_22.wr W30
  have f30_32 := f21_23.other W30 (Ne.symm ne_aB_b2)
  have f30_33 := f21_24.wr W30
  have f30_34 := f21_25.other W30 (Or.inr (slot_ne (Or.inl (hw _ (List.mem_of_getElem? (i := 17) rfl))) (Or.inl (hw _ (List.mem_of_getElem? (i := 23) rfl))) (by decide) (t := (.array .byte)) (t' := (.object "com/example/execd/execd/io/BodyReader$Step")) (by decide) (by decide)))
  have f30_35 := f21_26.other W30 (Or.inr (slot_ne (Or.inr (hw _ (List.mem_of_getElem? (i := 19) rfl))) (Or.inl (hw _ (List.mem_of_getElem? (i := 23) rfl))) (by decide) (t := .boolean) (t' := (.object "com/example/execd/execd/io/BodyReader$Step")) (by decide) (by decide)))
  have f30_36 := Fw21.other W30 (Or.inr (slot_ne (Or.inr (hw _ (List.mem_of_getElem? (i := 21) rfl))) (Or.inl (hw _ (List.mem_of_getElem? (i := 23) rfl))) (by decide) (t := .int) (t' := (.object "com/example/execd/execd/io/BodyReader$Step")) (by decide) (by decide)))
  have f30_37 := f21_28.other W30 (Or.inr (slot_ne (Or.inl (hw _ (List.mem_of_getElem? (i := 25) rfl))) (Or.inl (hw _ (List.mem_of_getElem? (i := 23) rfl))) (by decide) (t := .long) (t' := (.object "com/example/execd/execd/io/BodyReader$Step")) (by decide) (by decide)))
  have f30_38 := f21_29.other W30 (Or.inr (slot_ne (Or.inl (hw _ (List.mem_of_getElem? (i := 49) rfl))) (Or.inl (hw _ (List.mem_of_getElem? (i := 23) rfl))) (by decide) (t := .int) (t' := (.object "com/example/execd/execd/io/BodyReader$Step")) (by decide) (by decide)))
  have K30 : Keep h0 h30 [aB] := (K21).wr W30 (Or.inl (by simp))
  have N30 := Fr.snoc X30 N21 gn_aB
  have Zh30 : n0 ≤ h30.size := Nat.le_trans Z0 K30.1
  refine own_back ?_ st30
  show own_Go p e below PO (T30.setTop (mkF m 26 #[.val (.ref aB), .val (.int (1 : Int32)), .val (.int pL), .val (.ref aS), .val (.long jL), .second] []))
  refine own_back ?_ (fun t k => XS.aloadN X30.here hx rfl (hb hby d2_26) rfl rfl k)
  show own_Go p e below PO (T30.setTop (mkF m 27 #[.val (.ref aB), .val (.int (1 : Int32)), .val (.int pL), .val (.ref aS), .val (.long jL), .second] [(.ref aB)]))
  refine own_back ?_ (fun t k => XS.lload X30.here hx rfl (hb hby d2_27) rfl k)
  show own_Go p e below PO (T30.setTop (mkF m 29 #[.val (.ref aB), .val (.int (1 : Int32)), .val (.int pL), .val (.ref aS), .val (.long jL), .second] [(.long jL), (.ref aB)]))
  obtain ⟨T39, h39, X39, e39, W39, st39⟩ := putF X30 hx hZ hown (host := "") (Or.inl (hw _ (List.mem_of_getElem? (i := 24) rfl))) Via.refl e30 f30_37 f30_33 (Or.inl (hw _ (List.mem_of_getElem? (i := 25) rfl))) (hw _ (List.mem_of_getElem? (i := 5) rfl)) (ty := .long) (by decide) rfl rfl (g := (mkF m 29 #[.val (.ref aB), .val (.int (1 : Int32)), .val (.int pL), .val (.ref aS), .val (.long jL), .second] [(.long jL), (.ref aB)])) rfl rfl (hb hby d2_29)
  have Fw39 := f30_37.same W39
  have f39_40 := f30_31.wr W39
  have f39_41 := f30_32.other W39 (Ne.symm ne_aB_b2)
  have f39_42 := f30_33.wr W39
  have f39_43 := f30_34.other W39 (Or.inr (slot_ne (Or.inl (hw _ (List.mem_of_getElem? (i := 17) rfl))) (Or.inl (hw _ (List.mem_of_getElem? (i := 25) rfl))) (by decide) (t := (.array .byte)) (t' := .long) (by decide) (by decide)))
  have f39_44 := f30_35.other W39 (Or.inr (slot_ne (Or.inr (hw _ (List.mem_of_getElem? (i := 19) rfl))) (Or.inl (hw _ (List.mem_of_getElem? (i := 25) rfl))) (by decide) (t := .boolean) (t' := .long) (by decide) (by decide)))
  have f39_45 := f30_36.other W39 (Or.inr (slot_ne (Or.inr (hw _ (List.mem_of_getElem? (i := 21) rfl))) (Or.inl (hw _ (List.mem_of_getElem? (i := 25) rfl))) (by decide) (t := .int) (t' := .long) (by decide) (by decide)))
  have f39_46 := Fw30.other W39 (Or.inr (slot_ne (Or.inl (hw _ (List.mem_of_getElem? (i := 23) rfl))) (Or.inl (hw _ (List.mem_of_getElem? (i := 25) rfl))) (by decide) (t := (.object "com/example/execd/execd/io/BodyReader$Step")) (t' := .long) (by decide) (by decide)))
  have f39_47 := f30_38.other W39 (Or.inr (slot_ne (Or.inl (hw _ (List.mem_of_getElem? (i := 49) rfl))) (Or.inl (hw _ (List.mem_of_getElem? (i := 25) rfl))) (by decide) (t := .int) (t' := .long) (by decide) (by decide)))
  have K39 : Keep h0 h39 [aB] := (K30).wr W39 (Or.inl (by simp))
  have N39 := Fr.snoc X39 N30 gn_aB
  have Zh39 : n0 ≤ h39.size := Nat.le_trans Z0 K39.1
  refine own_back ?_ st39
  show own_Go p e below PO (T39.setTop (mkF m 32 #[.val (.ref aB), .val (.int (1 : Int32)), .val (.int pL), .val (.ref aS), .val (.long jL), .second] []))
  refine own_retV X39 hx Bd.returns (hb hby d2_32) e39 (Bd.notSynchronized) ?_ (by decide) (by decide)
  exact ⟨rfl, N39, K39, b2, sz_b2, f39_43, f39_45, f39_47, f39_40, _, _, _, f39_41⟩
theorem pd_1 : parseMethodDescriptor "(ZILcom/example/execd/execd/io/BodyReader$Step;J)V" = some ⟨[.boolean, .int, (.object "com/example/execd/execd/io/BodyReader$Step"), .long], none⟩ := by decide +kernel
theorem d1_0 : decode prog_6_method_3_code 0 = .ok (.new 8, 3) := by decide +kernel
theorem d1_3 : decode prog_6_method_3_code 3 = .ok (.dup, 1) := by decide +kernel
theorem d1_4 : decode prog_6_method_3_code 4 = .ok (.iconst 1, 1) := by decide +kernel
theorem d1_5 : decode prog_6_method_3_code 5 = .ok (.iload_n 0, 1) := by decide +kernel
theorem d1_6 : decode prog_6_method_3_code 6 = .ok (.getstatic 40, 3) := by decide +kernel
theorem d1_9 : decode prog_6_method_3_code 9 = .ok (.lconst 0, 1) := by decide +kernel
theorem d1_10 : decode prog_6_method_3_code 10 = .ok (.invokespecial 37, 3) := by decide +kernel
theorem d1_13 : decode prog_6_method_3_code 13 = .ok (.areturn, 1) := by decide +kernel
theorem ef_rmMake (m : MethodId) (x0 : Int32) : entryFrame m #[(.int x0)] 1 = mkF m 0 #[.val (.int x0)] [] := by first | (simp [entryFrame, mkF, argsToLocals, Value.category]; done) | rfl
def Q_rmMake (Z : State) (pN : Int32) (h0 : Heap) (n0 : Nat) (v : Option Value) (h : Heap) (L : List Loc) : Prop := ∃ aB aD : Addr, v = some (.ref aB) ∧ Fr n0 L ∧ Keep h0 h [] ∧ h0.size ≤ aB ∧ h0.size ≤ aD ∧ aB ≠ aD ∧ Exa Z h aB "com/example/execd/execd/io/BodyReader" ∧ Fld Z h aB "com/example/execd/execd/io/BodyReader" "data" "[B" (.ref aD) ∧ Fld Z h aB "com/example/execd/execd/io/BodyReader" "limit" "I" (.int pN) ∧ Fld Z h aB "com/example/execd/execd/io/BodyReader" "length" "I" (.int 0) ∧ own_Len Z h aD 0
set_option maxRecDepth 65536 in
set_option maxHeartbeats 40000000 in
theorem rmMake (l : Launch) (Z : State) (a0 : Array Value) (hw : ∀ d ∈ tables_1, d.before a0 Z = true) (ws : List Jvm.Cond) (pN : Int32) (a_CHUNK_SIZE : Addr) (h0 : Heap) (n0 : Nat) (Z0 : n0 ≤ h0.size) (S_CHUNK_SIZE : Sta Z h0 "com/example/execd/execd/io/BodyReader$Step" "CHUNK_SIZE" "Lcom/example/execd/execd/io/BodyReader$Step;" (.ref a_CHUNK_SIZE)) :
    MetFree l (⟨"com/example/execd/execd/io/BodyReader", "chunked", "(I)Lcom/example/execd/execd/io/BodyReader;"⟩ : MethodName) (head1 (Jvm.Cond.code (⟨"com/example/execd/execd/io/BodyReader", "chunked", "(I)Lcom/example/execd/execd/io/BodyReader;"⟩ : MethodName) prog_6_method_3_code 1 (some (.object "com/example/execd/execd/io/BodyReader")) :: ws) ({ frames := 2, cells := 2, slots := 9, locals := 30 } : Room)) (fun a U => a = #[(.int pN)] ∧ Z.Warmed39 U.vm ∧ U.heap = h0) (fun _ _ _ _ _ => True) (fun _ U o U' => ∃ v L, o = .returned v ∧ Q_rmMake Z pN h0 n0 v U'.heap L ∧ FrameEnd U o U' L ({ frames := 2, cells := 2, slots := 9, locals := 30 } : Room).cells ({ frames := 2, cells := 2, slots := 9, locals := 30 } : Room).slots) := by
  refine MetFree.of_bodySF (plainFor_of_name pn_1) hisR ?_
  intro p e s m args below meth c s₁ Bd hml0 hP hK
  obtain ⟨rfl, hZ, hh⟩ := hP
  have hx := Bd.exec
  have hby := Bd.bytes
  have hml : c.maxLocals = 1 := hml0
  have hown : s.vm.findClass "com/example/execd/execd/io/BodyReader" = some m.cls := findClass_of_methodNamed Bd.named
  have hnm := (name_of_methodNamed Bd.named Bd.method).1
  have X0 : Stand p l e ({ frames := 2, cells := 2, slots := 9, locals := 30 } : Room) s m #[(.int pN)] below meth c s₁ [] 0 0 := Stand.of_body Bd
  have e0 : s₁.heap = h0 := by rw [← hh, Bd.state]; rfl
  have N0 := Fr.nil n0
  let PO : Outcome → State → Prop := own_PO s (Q_rmMake Z pN h0 n0) 2 9
  show own_Go p e below PO (s₁.setTop (entryFrame m #[(.int pN)] 1))
  rw [ef_rmMake]
  show own_Go p e below PO (s₁.setTop (mkF m 0 #[.val (.int pN)] []))
  obtain ⟨T1, h1, X1, e1, E1, A1, D1, -, st1⟩ := newO X0 hx hZ hown (hw _ (List.mem_of_getElem? (i := 4) rfl)) (hw _ (List.mem_of_getElem? (i := 5) rfl)) (hw _ (List.mem_of_getElem? (i := 2) rfl)) e0 (g := (mkF m 0 #[.val (.int pN)] [])) rfl (hb hby d1_0) (by decide) (by decide)
  obtain ⟨b1, g1⟩ : ∃ z, z = h0.size := ⟨_, rfl⟩
  rw [← g1] at A1 D1 st1
  have sz_b1 : h0.size ≤ b1 := Nat.le_of_eq g1.symm
  have gn_b1 : n0 ≤ b1 := Nat.le_trans Z0 sz_b1
  have K1 : Keep h0 h1 [] := (Keep.refl h0 []).ext E1
  have Zh1 : n0 ≤ h1.size := Nat.le_trans Z0 K1.1
  have F1_data : Fld Z h1 b1 "com/example/execd/execd/io/BodyReader" "data" "[B" .null := D1 (Or.inl (hw _ (List.mem_of_getElem? (i := 17) rfl))) (ty := (.array .byte)) (by decide)
  have F1_chunked : Fld Z h1 b1 "com/example/execd/execd/io/BodyReader" "chunked" "Z" (.int (0 : Int32)) := D1 (Or.inr (hw _ (List.mem_of_getElem? (i := 19) rfl))) (ty := .boolean) (by decide)
  have F1_limit : Fld Z h1 b1 "com/example/execd/execd/io/BodyReader" "limit" "I" (.int (0 : Int32)) := D1 (Or.inr (hw _ (List.mem_of_getElem? (i := 21) rfl))) (ty := .int) (by decide)
  have F1_step : Fld Z h1 b1 "com/example/execd/execd/io/BodyReader" "step" "Lcom/example/execd/execd/io/BodyReader$Step;" .null := D1 (Or.inl (hw _ (List.mem_of_getElem? (i := 23) rfl))) (ty := (.object "com/example/execd/execd/io/BodyReader$Step")) (by decide)
  have F1_left : Fld Z h1 b1 "com/example/execd/execd/io/BodyReader" "left" "J" (.long (0 : Int64)) := D1 (Or.inl (hw _ (List.mem_of_getElem? (i := 25) rfl))) (ty := .long) (by decide)
  have F1_length : Fld Z h1 b1 "com/example/execd/execd/io/BodyReader" "length" "I" (.int (0 : Int32)) := D1 (Or.inl (hw _ (List.mem_of_getElem? (i := 49) rfl))) (ty := .int) (by decide)
  refine own_back ?_ st1
  show own_Go p e below PO (T1.setTop (mkF m 3 #[.val (.int pN)] [(.ref b1)]))
  refine own_back ?_ (fun t k => XS.dup X1.here hx rfl (hb hby d1_3) rfl rfl k)
  show own_Go p e below PO (T1.setTop (mkF m 4 #[.val (.int pN)] [(.ref b1), (.ref b1)]))
  refine own_back ?_ (fun t k => XS.iconst X1.here hx rfl (hb hby d1_4) k)
  show own_Go p e below PO (T1.setTop (mkF m 5 #[.val (.int pN)] [(.int (1 : Int32)), (.ref b1), (.ref b1)]))
  refine own_back ?_ (fun t k => XS.iloadN X1.here hx rfl (hb hby d1_5) rfl k)
  show own_Go p e below PO (T1.setTop (mkF m 6 #[.val (.int pN)] [(.int pN), (.int (1 : Int32)), (.ref b1), (.ref b1)]))
  obtain ⟨T2, X2, e2, st2⟩ := getS2 X1 hx hZ hown (host := "") (Or.inl (hw _ (List.mem_of_getElem? (i := 6) rfl))) Via.refl e1 (own_sta_keep S_CHUNK_SIZE K1 all0) (g := (mkF m 6 #[.val (.int pN)] [(.int pN), (.int (1 : Int32)), (.ref b1), (.ref b1)])) rfl (hb hby d1_6)
  refine own_back ?_ st2
  show own_Go p e below PO (T2.setTop (mkF m 9 #[.val (.int pN)] [(.ref a_CHUNK_SIZE), (.int pN), (.int (1 : Int32)), (.ref b1), (.ref b1)]))
  refine own_back ?_ (fun t k => XS.lconst X2.here hx rfl (hb hby d1_9) k)
  show own_Go p e below PO (T2.setTop (mkF m 10 #[.val (.int pN)] [(.long (0 : Int64)), (.ref a_CHUNK_SIZE), (.int pN), (.int (1 : Int32)), (.ref b1), (.ref b1)]))
  obtain ⟨_, _, ⟨T3, L3, k3, n3⟩, -, X3, ⟨Lc3, hQ3, l3, y3, z3⟩, st3⟩ := X2.specialBack hx (y := (⟨"com/example/execd/execd/io/BodyReader", "<init>", "(ZILcom/example/execd/execd/io/BodyReader$Step;J)V"⟩ : MethodName)) rfl hown (mvT hZ (hw _ (List.mem_of_getElem? (i := 9) rfl))) (mvT hZ (hw _ (List.mem_of_getElem? (i := 10) rfl))) (mvT hZ (hw _ (List.mem_of_getElem? (i := 11) rfl))) (by decide) (backOf (W := 1) (rmInit l Z a0 hw [] b1 pN a_CHUNK_SIZE (0 : Int64)  h1 n0 Zh1 A1 F1_data F1_chunked F1_limit F1_step F1_left F1_length gn_b1) hZ (hw _ (List.mem_of_getElem? (i := 11) rfl)) (hw _ (List.mem_of_getElem? (i := 2) rfl)) (by decide) (by decide)) (g := (mkF m 10 #[.val (.int pN)] [(.long (0 : Int64)), (.ref a_CHUNK_SIZE), (.int pN), (.int (1 : Int32)), (.ref b1), (.ref b1)])) rfl (by rw [hml]; rfl) (Steps.refl _) (a := b1) (argsL := [(.int (1 : Int32)), (.int pN), (.ref a_CHUNK_SIZE), (.long (0 : Int64))]) (rest := [(.ref b1)]) (lenOf pd_1 rfl) rfl (by show 2 * 0 + _ ≤ _; exact Nat.le_of_eq rfl) (hb hby d1_10) (fun _ _ => ⟨rfl, e2, (by decide : 1 + 1 ≤ _), (by decide : 9 + 0 ≤ _)⟩)
  dsimp only [Pt.U, Pt.locs, Pt.cells, Pt.slots] at X3 l3 y3 z3 st3 hQ3
  subst l3 y3 z3
  obtain ⟨rfl, N3q, Kc3, aD3, sz3, FD3, FL3, FN3, LD3⟩ := hQ3
  have N3 := Fr.app N0 N3q
  have ne_b1_aD3 : b1 ≠ aD3 := Nat.ne_of_lt (Nat.lt_of_lt_of_le A1.lt sz3)
  have sz_aD3 : h0.size ≤ aD3 := Nat.le_trans K1.1 sz3
  have gn_aD3 : n0 ≤ aD3 := Nat.le_trans Z0 sz_aD3
  have f3_4 := A1.keep Kc3
  have K3 : Keep h0 T3.heap [] := (K1).trans Kc3 (allS (Or.inr sz_b1) all0)
  have Zh3 : n0 ≤ T3.heap.size := Nat.le_trans Z0 K3.1
  refine own_back ?_ (fun t k => st3.trans k)
  show own_Go p e below PO (T3.setTop (mkF m 13 #[.val (.int pN)] [(.ref b1)]))
  refine own_retA X3 hx (w := (.ref b1)) (rest := []) Bd.returns rfl rfl (hb hby d1_13) rfl (Bd.notSynchronized) ?_ (by decide) (by decide)
  exact ⟨b1, aD3, rfl, N3, K3, sz_b1, sz_aD3, ne_b1_aD3, f3_4, FD3, FL3, FN3, LD3⟩
theorem d4_0 : decode prog_6_method_5_code 0 = .ok (.aload_n 0, 1) := by decide +kernel
theorem d4_1 : decode prog_6_method_5_code 1 = .ok (.getfield 7, 3) := by decide +kernel
theorem d4_4 : decode prog_6_method_5_code 4 = .ok (.arraylength, 1) := by decide +kernel
theorem d4_5 : decode prog_6_method_5_code 5 = .ok (.ireturn, 1) := by decide +kernel
theorem ef_rmRoom (m : MethodId) (x0 : Addr) : entryFrame m #[(.ref x0)] 1 = mkF m 0 #[.val (.ref x0)] [] := by first | (simp [entryFrame, mkF, argsToLocals, Value.category]; done) | rfl
def Q_rmRoom (zD : Int32) (h0 : Heap) (n0 : Nat) (v : Option Value) (h : Heap) (L : List Loc) : Prop := v = some (.int zD) ∧ Fr n0 L ∧ h = h0
set_option maxRecDepth 65536 in
set_option maxHeartbeats 40000000 in
theorem rmRoom (l : Launch) (Z : State) (a0 : Array Value) (hw : ∀ d ∈ tables_1, d.before a0 Z = true) (ws : List Jvm.Cond) (aB : Addr) (aD : Addr) (zD pL : Int32) (h0 : Heap) (n0 : Nat) (Z0 : n0 ≤ h0.size) (FD : Fld Z h0 aB "com/example/execd/execd/io/BodyReader" "data" "[B" (.ref aD)) (FL : Fld Z h0 aB "com/example/execd/execd/io/BodyReader" "limit" "I" (.int pL)) (FN : Fld Z h0 aB "com/example/execd/execd/io/BodyReader" "length" "I" (.int 0)) (EB : Exa Z h0 aB "com/example/execd/execd/io/BodyReader") (LD : own_Len Z h0 aD zD) (neBD : aB ≠ aD) :
    MetFree l (⟨"com/example/execd/execd/io/BodyReader", "room", "()I"⟩ : MethodName) (head1 (Jvm.Cond.code (⟨"com/example/execd/execd/io/BodyReader", "room", "()I"⟩ : MethodName) prog_6_method_5_code 1 (some .int) :: ws) ({ frames := 0, cells := 0, slots := 0, locals := 0 } : Room)) (fun a U => a = #[(.ref aB)] ∧ Z.Warmed39 U.vm ∧ U.heap = h0) (fun _ _ _ _ _ => True) (fun _ U o U' => ∃ v L, o = .returned v ∧ Q_rmRoom zD h0 n0 v U'.heap L ∧ FrameEnd U o U' L ({ frames := 0, cells := 0, slots := 0, locals := 0 } : Room).cells ({ frames := 0, cells := 0, slots := 0, locals := 0 } : Room).slots) := by
  refine MetFree.of_bodySF (plainFor_of_name pn_1) hisR ?_
  intro p e s m args below meth c s₁ Bd hml0 hP hK
  obtain ⟨rfl, hZ, hh⟩ := hP
  have hx := Bd.exec
  have hby := Bd.bytes
  have hml : c.maxLocals = 1 := hml0
  have hown : s.vm.findClass "com/example/execd/execd/io/BodyReader" = some m.cls := findClass_of_methodNamed Bd.named
  have hnm := (name_of_methodNamed Bd.named Bd.method).1
  have X0 : Stand p l e ({ frames := 0, cells := 0, slots := 0, locals := 0 } : Room) s m #[(.ref aB)] below meth c s₁ [] 0 0 := Stand.of_body Bd
  have e0 : s₁.heap = h0 := by rw [← hh, Bd.state]; rfl
  have N0 := Fr.nil n0
  let PO : Outcome → State → Prop := own_PO s (Q_rmRoom zD h0 n0) 0 0
  show own_Go p e below PO (s₁.setTop (entryFrame m #[(.ref aB)] 1))
  rw [ef_rmRoom]
  obtain ⟨ED, kD, vsD, dD, VD⟩ := id LD
  show own_Go p e below PO (s₁.setTop (mkF m 0 #[.val (.ref aB)] []))
  refine own_back ?_ (fun t k => XS.aloadN X0.here hx rfl (hb hby d4_0) rfl rfl k)
  show own_Go p e below PO (s₁.setTop (mkF m 1 #[.val (.ref aB)] [(.ref aB)]))
  obtain ⟨T1, X1, e1, st1⟩ := getF X0 hx hZ hown (host := "") (Or.inl (hw _ (List.mem_of_getElem? (i := 16) rfl))) Via.refl e0 FD (g := (mkF m 1 #[.val (.ref aB)] [(.ref aB)])) rfl rfl (hb hby d4_1)
  refine own_back ?_ st1
  show own_Go p e below PO (T1.setTop (mkF m 4 #[.val (.ref aB)] [(.ref aD)]))
  refine own_back ?_ (own_len X1 hx hZ e1 VD (g := (mkF m 4 #[.val (.ref aB)] [(.ref aD)])) rfl rfl (hb hby d4_4))
  show own_Go p e below PO (T1.setTop (mkF m 5 #[.val (.ref aB)] [(.int zD)]))
  refine own_retI X1 hx (rest := []) Bd.returns (hb hby d4_5) e1 (Bd.notSynchronized) ?_ (by decide) (by decide)
  exact ⟨rfl, N0, rfl⟩
theorem d5_0 : decode prog_6_method_6_code 0 = .ok (.sipush 16384, 3) := by decide +kernel
theorem d5_3 : decode prog_6_method_6_code 3 = .ok (.iconst 2, 1) := by decide +kernel
theorem d5_4 : decode prog_6_method_6_code 4 = .ok (.aload_n 0, 1) := by decide +kernel
theorem d5_5 : decode prog_6_method_6_code 5 = .ok (.getfield 7, 3) := by decide +kernel
theorem d5_8 : decode prog_6_method_6_code 8 = .ok (.arraylength, 1) := by decide +kernel
theorem d5_9 : decode prog_6_method_6_code 9 = .ok (.imul, 1) := by decide +kernel
theorem d5_10 : decode prog_6_method_6_code 10 = .ok (.invokestatic 70, 3) := by decide +kernel
theorem d5_13 : decode prog_6_method_6_code 13 = .ok (.aload_n 0, 1) := by decide +kernel
theorem d5_14 : decode prog_6_method_6_code 14 = .ok (.getfield 17, 3) := by decide +kernel
theorem d5_17 : decode prog_6_method_6_code 17 = .ok (.invokestatic 76, 3) := by decide +kernel
theorem d5_20 : decode prog_6_method_6_code 20 = .ok (.ireturn, 1) := by decide +kernel
theorem ef_rmNext (m : MethodId) (x0 : Addr) : entryFrame m #[(.ref x0)] 1 = mkF m 0 #[.val (.ref x0)] [] := by first | (simp [entryFrame, mkF, argsToLocals, Value.category]; done) | rfl
def Q_rmNext (zD pL : Int32) (h0 : Heap) (n0 : Nat) (v : Option Value) (h : Heap) (L : List Loc) : Prop := v = some (.int (own_next zD pL)) ∧ Fr n0 L ∧ h = h0
set_option maxRecDepth 65536 in
set_option maxHeartbeats 40000000 in
theorem rmNext (l : Launch) (Z : State) (a0 : Array Value) (hw : ∀ d ∈ tables_1, d.before a0 Z = true) (ws : List Jvm.Cond) (aB : Addr) (aD : Addr) (zD pL : Int32) (h0 : Heap) (n0 : Nat) (Z0 : n0 ≤ h0.size) (FD : Fld Z h0 aB "com/example/execd/execd/io/BodyReader" "data" "[B" (.ref aD)) (FL : Fld Z h0 aB "com/example/execd/execd/io/BodyReader" "limit" "I" (.int pL)) (FN : Fld Z h0 aB "com/example/execd/execd/io/BodyReader" "length" "I" (.int 0)) (EB : Exa Z h0 aB "com/example/execd/execd/io/BodyReader") (LD : own_Len Z h0 aD zD) (neBD : aB ≠ aD) :
    MetFree l (⟨"com/example/execd/execd/io/BodyReader", "nextRoom", "()I"⟩ : MethodName) (head1 (Jvm.Cond.code (⟨"com/example/execd/execd/io/BodyReader", "nextRoom", "()I"⟩ : MethodName) prog_6_method_6_code 1 (some .int) :: ws) ({ frames := 1, cells := 0, slots := 0, locals := 13 } : Room)) (fun a U => a = #[(.ref aB)] ∧ Z.Warmed39 U.vm ∧ U.heap = h0) (fun _ _ _ _ _ => True) (fun _ U o U' => ∃ v L, o = .returned v ∧ Q_rmNext zD pL h0 n0 v U'.heap L ∧ FrameEnd U o U' L ({ frames := 1, cells := 0, slots := 0, locals := 13 } : Room).cells ({ frames := 1, cells := 0, slots := 0, locals := 13 } : Room).slots) := by
  refine MetFree.of_bodySF (plainFor_of_name pn_1) hisR ?_
  intro p e s m args below meth c s₁ Bd hml0 hP hK
  obtain ⟨rfl, hZ, hh⟩ := hP
  have hx := Bd.exec
  have hby := Bd.bytes
  have hml : c.maxLocals = 1 := hml0
  have hown : s.vm.findClass "com/example/execd/execd/io/BodyReader" = some m.cls := findClass_of_methodNamed Bd.named
  have hnm := (name_of_methodNamed Bd.named Bd.method).1
  have X0 : Stand p l e ({ frames := 1, cells := 0, slots := 0, locals := 13 } : Room) s m #[(.ref aB)] below meth c s₁ [] 0 0 := Stand.of_body Bd
  have e0 : s₁.heap = h0 := by rw [← hh, Bd.state]; rfl
  have N0 := Fr.nil n0
  let PO : Outcome → State → Prop := own_PO s (Q_rmNext zD pL h0 n0) 0 0
  show own_Go p e below PO (s₁.setTop (entryFrame m #[(.ref aB)] 1))
  rw [ef_rmNext]
  obtain ⟨ED, kD, vsD, dD, VD⟩ := id LD
  show own_Go p e below PO (s₁.setTop (mkF m 0 #[.val (.ref aB)] []))
  refine own_back ?_ (fun t k => XS.sipush X0.here hx rfl (hb hby d5_0) k)
  show own_Go p e below PO (s₁.setTop (mkF m 3 #[.val (.ref aB)] [(.int (16384 : Int32))]))
  refine own_back ?_ (fun t k => XS.iconst X0.here hx rfl (hb hby d5_3) k)
  show own_Go p e below PO (s₁.setTop (mkF m 4 #[.val (.ref aB)] [(.int (2 : Int32)), (.int (16384 : Int32))]))
  refine own_back ?_ (fun t k => XS.aloadN X0.here hx rfl (hb hby d5_4) rfl rfl k)
  show own_Go p e below PO (s₁.setTop (mkF m 5 #[.val (.ref aB)] [(.ref aB), (.int (2 : Int32)), (.int (16384 : Int32))]))
  obtain ⟨T1, X1, e1, st1⟩ := getF X0 hx hZ hown (host := "") (Or.inl (hw _ (List.mem_of_getElem? (i := 16) rfl))) Via.refl e0 FD (g := (mkF m 5 #[.val (.ref aB)] [(.ref aB), (.int (2 : Int32)), (.int (16384 : Int32))])) rfl rfl (hb hby d5_5)
  refine own_back ?_ st1
  show own_Go p e below PO (T1.setTop (mkF m 8 #[.val (.ref aB)] [(.ref aD), (.int (2 : Int32)), (.int (16384 : Int32))]))
  refine own_back ?_ (own_len X1 hx hZ e1 VD (g := (mkF m 8 #[.val (.ref aB)] [(.ref aD), (.int (2 : Int32)), (.int (16384 : Int32))])) rfl rfl (hb hby d5_8))
  show own_Go p e below PO (T1.setTop (mkF m 9 #[.val (.ref aB)] [(.int zD), (.int (2 : Int32)), (.int (16384 : Int32))]))
  refine own_back ?_ (fun t k => XS.imul X1.here hx rfl (hb hby d5_9) rfl k)
  show own_Go p e below PO (T1.setTop (mkF m 10 #[.val (.ref aB)] [(.int ((2 : Int32) * zD)), (.int (16384 : Int32))]))
  obtain ⟨_, _, ⟨T2, L2, k2, n2⟩, -, X2, ⟨Lc2, hQ2, l2, y2, z2⟩, st2⟩ := Jvm.LawKit.callS X1 hx (y := (⟨"java/lang/Math", "max", "(II)I"⟩ : MethodName)) hown (mvT hZ (hw _ (List.mem_of_getElem? (i := 36) rfl))) (mvT hZ (hw _ (List.mem_of_getElem? (i := 37) rfl))) (mvT hZ (hw _ (List.mem_of_getElem? (i := 38) rfl))) (mvT hZ (hw _ (List.mem_of_getElem? (i := 39) rfl))) (by decide) (backOf (W := 0) (rm6 l Z a0 hw [] (16384 : Int32) ((2 : Int32) * zD)  h0 n0 Z0 ) hZ (hw _ (List.mem_of_getElem? (i := 39) rfl)) (hw _ (List.mem_of_getElem? (i := 38) rfl)) (by decide) (by decide)) (g := (mkF m 10 #[.val (.ref aB)] [(.int ((2 : Int32) * zD)), (.int (16384 : Int32))])) rfl (by rw [hml]; rfl) (argsL := [(.int (16384 : Int32)), (.int ((2 : Int32) * zD))]) (rest := []) (lenOf pd_0 rfl) rfl (by show 2 * 0 + _ ≤ _; exact Nat.le_of_eq rfl) (hb hby d5_10) (fun _ _ => ⟨rfl, e1, (by decide : 0 + 0 ≤ _), (by decide : 0 + 0 ≤ _)⟩)
  dsimp only [Pt.U, Pt.locs, Pt.cells, Pt.slots] at X2 l2 y2 z2 st2 hQ2
  subst l2 y2 z2
  obtain ⟨rfl, N2q, e2⟩ := hQ2
  have N2 := Fr.app N0 N2q
  refine own_back ?_ st2
  show own_Go p e below PO (T2.setTop (mkF m 13 #[.val (.ref aB)] [(.int (own_max (16384 : Int32) ((2 : Int32) * zD)))]))
  refine own_gen (A := Int32) (own_max (16384 : Int32) ((2 : Int32) * zD)) (fun r10_3 => own_Go p e below PO (T2.setTop (mkF m 13 #[.val (.ref aB)] [(.int r10_3)]))) ?_
  intro r10_3 h_r10_3
  show own_Go p e below PO (T2.setTop (mkF m 13 #[.val (.ref aB)] [(.int r10_3)]))
  refine own_back ?_ (fun t k => XS.aloadN X2.here hx rfl (hb hby d5_13) rfl rfl k)
  show own_Go p e below PO (T2.setTop (mkF m 14 #[.val (.ref aB)] [(.ref aB), (.int r10_3)]))
  obtain ⟨T4, X4, e4, st4⟩ := getF X2 hx hZ hown (host := "") (Or.inl (hw _ (List.mem_of_getElem? (i := 20) rfl))) Via.refl e2 FL (g := (mkF m 14 #[.val (.ref aB)] [(.ref aB), (.int r10_3)])) rfl rfl (hb hby d5_14)
  refine own_back ?_ st4
  show own_Go p e below PO (T4.setTop (mkF m 17 #[.val (.ref aB)] [(.int pL), (.int r10_3)]))
  obtain ⟨_, _, ⟨T5, L5, k5, n5⟩, -, X5, ⟨Lc5, hQ5, l5, y5, z5⟩, st5⟩ := Jvm.LawKit.callS X4 hx (y := (⟨"java/lang/Math", "min", "(II)I"⟩ : MethodName)) hown (mvT hZ (hw _ (List.mem_of_getElem? (i := 40) rfl))) (mvT hZ (hw _ (List.mem_of_getElem? (i := 41) rfl))) (mvT hZ (hw _ (List.mem_of_getElem? (i := 38) rfl))) (mvT hZ (hw _ (List.mem_of_getElem? (i := 42) rfl))) (by decide) (backOf (W := 0) (rm7 l Z a0 hw [] r10_3 pL  h0 n0 Z0 ) hZ (hw _ (List.mem_of_getElem? (i := 42) rfl)) (hw _ (List.mem_of_getElem? (i := 38) rfl)) (by decide) (by decide)) (g := (mkF m 17 #[.val (.ref aB)] [(.int pL), (.int r10_3)])) rfl (by rw [hml]; rfl) (argsL := [(.int r10_3), (.int pL)]) (rest := []) (lenOf pd_0 rfl) rfl (by show 2 * 0 + _ ≤ _; exact Nat.le_of_eq rfl) (hb hby d5_17) (fun _ _ => ⟨rfl, e4, (by decide : 0 + 0 ≤ _), (by decide : 0 + 0 ≤ _)⟩)
  dsimp only [Pt.U, Pt.locs, Pt.cells, Pt.slots] at X5 l5 y5 z5 st5 hQ5
  subst l5 y5 z5
  obtain ⟨rfl, N5q, e5⟩ := hQ5
  have N5 := Fr.app N2 N5q
  refine own_back ?_ st5
  show own_Go p e below PO (T5.setTop (mkF m 20 #[.val (.ref aB)] [(.int (own_min r10_3 pL))]))
  refine own_gen (A := Int32) (own_min r10_3 pL) (fun r17_6 => own_Go p e below PO (T5.setTop (mkF m 20 #[.val (.ref aB)] [(.int r17_6)]))) ?_
  intro r17_6 h_r17_6
  show own_Go p e below PO (T5.setTop (mkF m 20 #[.val (.ref aB)] [(.int r17_6)]))
  refine own_retI X5 hx (rest := []) Bd.returns (hb hby d5_20) e5 (Bd.notSynchronized) ?_ (by decide) (by decide)
  exact ⟨by subst h_r17_6 h_r10_3; rfl, N5, rfl⟩
theorem pd_2 : parseMethodDescriptor "([BI)[B" = some ⟨[(.array .byte), .int], some (.array .byte)⟩ := by decide +kernel
theorem d8_0 : decode prog_6_method_8_code 0 = .ok (.aload_n 0, 1) := by decide +kernel
theorem d8_1 : decode prog_6_method_8_code 1 = .ok (.getfield 89, 3) := by decide +kernel
theorem d8_4 : decode prog_6_method_8_code 4 = .ok (.aload_n 0, 1) := by decide +kernel
theorem d8_5 : decode prog_6_method_8_code 5 = .ok (.getfield 7, 3) := by decide +kernel
theorem d8_8 : decode prog_6_method_8_code 8 = .ok (.arraylength, 1) := by decide +kernel
theorem d8_9 : decode prog_6_method_8_code 9 = .ok (.if_icmp .ne 10, 3) := by decide +kernel
theorem d8_12 : decode prog_6_method_8_code 12 = .ok (.aload_n 0, 1) := by decide +kernel
theorem d8_13 : decode prog_6_method_8_code 13 = .ok (.getfield 7, 3) := by decide +kernel
theorem d8_16 : decode prog_6_method_8_code 16 = .ok (.goto 14, 3) := by decide +kernel
theorem d8_19 : decode prog_6_method_8_code 19 = .ok (.aload_n 0, 1) := by decide +kernel
theorem d8_20 : decode prog_6_method_8_code 20 = .ok (.getfield 7, 3) := by decide +kernel
theorem d8_23 : decode prog_6_method_8_code 23 = .ok (.aload_n 0, 1) := by decide +kernel
theorem d8_24 : decode prog_6_method_8_code 24 = .ok (.getfield 89, 3) := by decide +kernel
theorem d8_27 : decode prog_6_method_8_code 27 = .ok (.invokestatic 83, 3) := by decide +kernel
theorem d8_30 : decode prog_6_method_8_code 30 = .ok (.areturn, 1) := by decide +kernel
theorem ef_rmBody (m : MethodId) (x0 : Addr) : entryFrame m #[(.ref x0)] 1 = mkF m 0 #[.val (.ref x0)] [] := by first | (simp [entryFrame, mkF, argsToLocals, Value.category]; done) | rfl
def Q_rmBody (Z : State) (h0 : Heap) (n0 : Nat) (v : Option Value) (h : Heap) (L : List Loc) : Prop := ∃ aR : Addr, v = some (.ref aR) ∧ Fr n0 L ∧ Keep h0 h [] ∧ own_Len Z h aR 0
set_option maxRecDepth 65536 in
set_option maxHeartbeats 40000000 in
theorem rmBody (l : Launch) (Z : State) (a0 : Array Value) (hw : ∀ d ∈ tables_1, d.before a0 Z = true) (ws : List Jvm.Cond) (aB : Addr) (aD : Addr) (zD pL : Int32) (h0 : Heap) (n0 : Nat) (Z0 : n0 ≤ h0.size) (FD : Fld Z h0 aB "com/example/execd/execd/io/BodyReader" "data" "[B" (.ref aD)) (FL : Fld Z h0 aB "com/example/execd/execd/io/BodyReader" "limit" "I" (.int pL)) (FN : Fld Z h0 aB "com/example/execd/execd/io/BodyReader" "length" "I" (.int 0)) (EB : Exa Z h0 aB "com/example/execd/execd/io/BodyReader") (LD : own_Len Z h0 aD zD) (neBD : aB ≠ aD) :
    MetFree l (⟨"com/example/execd/execd/io/BodyReader", "body", "()[B"⟩ : MethodName) (head1 (Jvm.Cond.code (⟨"com/example/execd/execd/io/BodyReader", "body", "()[B"⟩ : MethodName) prog_6_method_8_code 1 (some (.array .byte)) :: ws) ({ frames := 2, cells := 1, slots := 0, locals := 32 } : Room)) (fun a U => a = #[(.ref aB)] ∧ Z.Warmed39 U.vm ∧ U.heap = h0) (fun _ _ _ _ _ => True) (fun _ U o U' => ∃ v L, o = .returned v ∧ Q_rmBody Z h0 n0 v U'.heap L ∧ FrameEnd U o U' L ({ frames := 2, cells := 1, slots := 0, locals := 32 } : Room).cells ({ frames := 2, cells := 1, slots := 0, locals := 32 } : Room).slots) := by
  refine MetFree.of_bodySF (plainFor_of_name pn_1) hisR ?_
  intro p e s m args below meth c s₁ Bd hml0 hP hK
  obtain ⟨rfl, hZ, hh⟩ := hP
  have hx := Bd.exec
  have hby := Bd.bytes
  have hml : c.maxLocals = 1 := hml0
  have hown : s.vm.findClass "com/example/execd/execd/io/BodyReader" = some m.cls := findClass_of_methodNamed Bd.named
  have hnm := (name_of_methodNamed Bd.named Bd.method).1
  have X0 : Stand p l e ({ frames := 2, cells := 1, slots := 0, locals := 32 } : Room) s m #[(.ref aB)] below meth c s₁ [] 0 0 := Stand.of_body Bd
  have e0 : s₁.heap = h0 := by rw [← hh, Bd.state]; rfl
  have N0 := Fr.nil n0
  let PO : Outcome → State → Prop := own_PO s (Q_rmBody Z h0 n0) 1 0
  show own_Go p e below PO (s₁.setTop (entryFrame m #[(.ref aB)] 1))
  rw [ef_rmBody]
  obtain ⟨ED, kD, vsD, dD, VD⟩ := id LD
  show own_Go p e below PO (s₁.setTop (mkF m 0 #[.val (.ref aB)] []))
  refine own_back ?_ (fun t k => XS.aloadN X0.here hx rfl (hb hby d8_0) rfl rfl k)
  show own_Go p e below PO (s₁.setTop (mkF m 1 #[.val (.ref aB)] [(.ref aB)]))
  obtain ⟨T1, X1, e1, st1⟩ := getF X0 hx hZ hown (host := "") (Or.inl (hw _ (List.mem_of_getElem? (i := 48) rfl))) Via.refl e0 FN (g := (mkF m 1 #[.val (.ref aB)] [(.ref aB)])) rfl rfl (hb hby d8_1)
  refine own_back ?_ st1
  show own_Go p e below PO (T1.setTop (mkF m 4 #[.val (.ref aB)] [(.int (0 : Int32))]))
  refine own_back ?_ (fun t k => XS.aloadN X1.here hx rfl (hb hby d8_4) rfl rfl k)
  show own_Go p e below PO (T1.setTop (mkF m 5 #[.val (.ref aB)] [(.ref aB), (.int (0 : Int32))]))
  obtain ⟨T2, X2, e2, st2⟩ := getF X1 hx hZ hown (host := "") (Or.inl (hw _ (List.mem_of_getElem? (i := 16) rfl))) Via.refl e1 FD (g := (mkF m 5 #[.val (.ref aB)] [(.ref aB), (.int (0 : Int32))])) rfl rfl (hb hby d8_5)
  refine own_back ?_ st2
  show own_Go p e below PO (T2.setTop (mkF m 8 #[.val (.ref aB)] [(.ref aD), (.int (0 : Int32))]))
  refine own_back ?_ (own_len X2 hx hZ e2 VD (g := (mkF m 8 #[.val (.ref aB)] [(.ref aD), (.int (0 : Int32))])) rfl rfl (hb hby d8_8))
  show own_Go p e below PO (T2.setTop (mkF m 9 #[.val (.ref aB)] [(.int zD), (.int (0 : Int32))]))
  by_cases hc9_3 : (0 : Int32) = zD
  case pos =>
    refine own_back ?_ (fun t k => XS.icmpNo X2.here hx rfl (hb hby d8_9) rfl (teq hc9_3).2 k)
    show own_Go p e below PO (T2.setTop (mkF m 12 #[.val (.ref aB)] []))
    refine own_back ?_ (fun t k => XS.aloadN X2.here hx rfl (hb hby d8_12) rfl rfl k)
    show own_Go p e below PO (T2.setTop (mkF m 13 #[.val (.ref aB)] [(.ref aB)]))
    obtain ⟨T4, X4, e4, st4⟩ := getF X2 hx hZ hown (host := "") (Or.inl (hw _ (List.mem_of_getElem? (i := 16) rfl))) Via.refl e2 FD (g := (mkF m 13 #[.val (.ref aB)] [(.ref aB)])) rfl rfl (hb hby d8_13)
    refine own_back ?_ st4
    show own_Go p e below PO (T4.setTop (mkF m 16 #[.val (.ref aB)] [(.ref aD)]))
    refine own_back ?_ (fun t k => XS.goto X4.here hx rfl (pc0 := 16) (pc' := 30) rfl (hb hby d8_16) (by decide) (by decide) k)
    show own_Go p e below PO (T4.setTop (mkF m 30 #[.val (.ref aB)] [(.ref aD)]))
    refine own_retA X4 hx (w := (.ref aD)) (rest := []) Bd.returns rfl rfl (hb hby d8_30) e4 (Bd.notSynchronized) ?_ (by decide) (by decide)
    exact ⟨aD, rfl, N0, Keep.refl _ _, hc9_3.symm ▸ LD⟩
  refine own_back ?_ (fun t k => XS.icmpYes X2.here hx rfl (pc0 := 9) (pc' := 19) rfl (hb hby d8_9) rfl (feq hc9_3).2 (by decide) (by decide) k)
  show own_Go p e below PO (T2.setTop (mkF m 19 #[.val (.ref aB)] []))
  refine own_back ?_ (fun t k => XS.aloadN X2.here hx rfl (hb hby d8_19) rfl rfl k)
  show own_Go p e below PO (T2.setTop (mkF m 20 #[.val (.ref aB)] [(.ref aB)]))
  obtain ⟨T5, X5, e5, st5⟩ := getF X2 hx hZ hown (host := "") (Or.inl (hw _ (List.mem_of_getElem? (i := 16) rfl))) Via.refl e2 FD (g := (mkF m 20 #[.val (.ref aB)] [(.ref aB)])) rfl rfl (hb hby d8_20)
  refine own_back ?_ st5
  show own_Go p e below PO (T5.setTop (mkF m 23 #[.val (.ref aB)] [(.ref aD)]))
  refine own_back ?_ (fun t k => XS.aloadN X5.here hx rfl (hb hby d8_23) rfl rfl k)
  show own_Go p e below PO (T5.setTop (mkF m 24 #[.val (.ref aB)] [(.ref aB), (.ref aD)]))
  obtain ⟨T6, X6, e6, st6⟩ := getF X5 hx hZ hown (host := "") (Or.inl (hw _ (List.mem_of_getElem? (i := 48) rfl))) Via.refl e5 FN (g := (mkF m 24 #[.val (.ref aB)] [(.ref aB), (.ref aD)])) rfl rfl (hb hby d8_24)
  refine own_back ?_ st6
  show own_Go p e below PO (T6.setTop (mkF m 27 #[.val (.ref aB)] [(.int (0 : Int32)), (.ref aD)]))
  obtain ⟨_, _, ⟨T7, L7, k7, n7⟩, -, X7, ⟨Lc7, hQ7, l7, y7, z7⟩, st7⟩ := Jvm.LawKit.callS X6 hx (y := (⟨"java/util/Arrays", "copyOf", "([BI)[B"⟩ : MethodName)) hown (mvT hZ (hw _ (List.mem_of_getElem? (i := 56) rfl))) (mvT hZ (hw _ (List.mem_of_getElem? (i := 57) rfl))) (mvT hZ (hw _ (List.mem_of_getElem? (i := 58) rfl))) (mvT hZ (hw _ (List.mem_of_getElem? (i := 59) rfl))) (by decide) (backOf (W := 0) (rmCp_0 l Z a0 hw [] aD (0 : Int32) zD h0 n0 Z0 LD LD.nn (by decide)) hZ (hw _ (List.mem_of_getElem? (i := 59) rfl)) (hw _ (List.mem_of_getElem? (i := 58) rfl)) (by decide) (by decide)) (g := (mkF m 27 #[.val (.ref aB)] [(.int (0 : Int32)), (.ref aD)])) rfl (by rw [hml]; rfl) (argsL := [(.ref aD), (.int (0 : Int32))]) (rest := []) (lenOf pd_2 rfl) rfl (by show 2 * 0 + _ ≤ _; exact Nat.le_of_eq rfl) (hb hby d8_27) (fun _ _ => ⟨rfl, e6, (by decide : 0 + 1 ≤ _), (by decide : 0 + 0 ≤ _)⟩)
  dsimp only [Pt.U, Pt.locs, Pt.cells, Pt.slots] at X7 l7 y7 z7 st7 hQ7
  subst l7 y7 z7
  obtain ⟨aN7, rfl, N7q, Kc7, sz7, LN7⟩ := hQ7
  have N7 := Fr.app N0 N7q
  have ne_aB_aN7 : aB ≠ aN7 := Nat.ne_of_lt (Nat.lt_of_lt_of_le EB.lt sz7)
  have ne_aD_aN7 : aD ≠ aN7 := Nat.ne_of_lt (Nat.lt_of_lt_of_le ED.lt sz7)
  have sz_aN7 : h0.size ≤ aN7 := sz7
  have gn_aN7 : n0 ≤ aN7 := Nat.le_trans Z0 sz_aN7
  have K7 : Keep h0 T7.heap [] := (Keep.refl h0 []).trans Kc7 all0
  have Zh7 : n0 ≤ T7.heap.size := Nat.le_trans Z0 K7.1
  refine own_back ?_ st7
  show own_Go p e below PO (T7.setTop (mkF m 30 #[.val (.ref aB)] [(.ref aN7)]))
  refine own_retA X7 hx (w := (.ref aN7)) (rest := []) Bd.returns rfl rfl (hb hby d8_30) rfl (Bd.notSynchronized) ?_ (by decide) (by decide)
  exact ⟨aN7, rfl, N7, K7, LN7⟩
theorem pd_3 : parseMethodDescriptor "()I" = some ⟨[], some .int⟩ := by decide +kernel
theorem d9_0 : decode prog_6_method_7_code 0 = .ok (.aload_n 0, 1) := by decide +kernel
theorem d9_1 : decode prog_6_method_7_code 1 = .ok (.aload_n 0, 1) := by decide +kernel
theorem d9_2 : decode prog_6_method_7_code 2 = .ok (.getfield 7, 3) := by decide +kernel
theorem d9_5 : decode prog_6_method_7_code 5 = .ok (.aload_n 0, 1) := by decide +kernel
theorem d9_6 : decode prog_6_method_7_code 6 = .ok (.invokevirtual 79, 3) := by decide +kernel
theorem d9_9 : decode prog_6_method_7_code 9 = .ok (.invokestatic 83, 3) := by decide +kernel
theorem d9_12 : decode prog_6_method_7_code 12 = .ok (.putfield 7, 3) := by decide +kernel
theorem d9_15 : decode prog_6_method_7_code 15 = .ok (.return_, 1) := by decide +kernel
theorem ef_rmGrow_16384 (m : MethodId) (x0 : Addr) : entryFrame m #[(.ref x0)] 1 = mkF m 0 #[.val (.ref x0)] [] := by first | (simp [entryFrame, mkF, argsToLocals, Value.category]; done) | rfl
def Q_rmGrow_16384 (Z : State) (aB : Addr) (zD pL : Int32) (h0 : Heap) (n0 : Nat) (v : Option Value) (h : Heap) (L : List Loc) : Prop := v = none ∧ Fr n0 L ∧ Keep h0 h [aB] ∧ ∃ aE : Addr, h0.size ≤ aE ∧ Fld Z h aB "com/example/execd/execd/io/BodyReader" "data" "[B" (.ref aE) ∧ Fld Z h aB "com/example/execd/execd/io/BodyReader" "limit" "I" (.int pL) ∧ Fld Z h aB "com/example/execd/execd/io/BodyReader" "length" "I" (.int 0) ∧ own_Len Z h aE (own_next zD pL)
set_option maxRecDepth 65536 in
set_option maxHeartbeats 40000000 in
theorem rmGrow_16384 (l : Launch) (Z : State) (a0 : Array Value) (hw : ∀ d ∈ tables_1, d.before a0 Z = true) (ws : List Jvm.Cond) (aB : Addr) (aD : Addr) (zD pL : Int32) (h0 : Heap) (n0 : Nat) (Z0 : n0 ≤ h0.size) (FD : Fld Z h0 aB "com/example/execd/execd/io/BodyReader" "data" "[B" (.ref aD)) (FL : Fld Z h0 aB "com/example/execd/execd/io/BodyReader" "limit" "I" (.int pL)) (FN : Fld Z h0 aB "com/example/execd/execd/io/BodyReader" "length" "I" (.int 0)) (EB : Exa Z h0 aB "com/example/execd/execd/io/BodyReader") (LD : own_Len Z h0 aD zD) (neBD : aB ≠ aD) (hN : 0 ≤ (own_next zD pL).toInt ∧ (own_next zD pL).toInt ≤ 16384) (gn_aB : n0 ≤ aB) :
    MetFree l (⟨"com/example/execd/execd/io/BodyReader", "grow", "()V"⟩ : MethodName) (head1 (Jvm.Cond.code (⟨"com/example/execd/execd/io/BodyReader", "grow", "()V"⟩ : MethodName) prog_6_method_7_code 1 none :: ws) ({ frames := 2, cells := 1, slots := 16384, locals := 33 } : Room)) (fun a U => a = #[(.ref aB)] ∧ Z.Warmed39 U.vm ∧ U.heap = h0) (fun _ _ _ _ _ => True) (fun _ U o U' => ∃ v L, o = .returned v ∧ Q_rmGrow_16384 Z aB zD pL h0 n0 v U'.heap L ∧ FrameEnd U o U' L ({ frames := 2, cells := 1, slots := 16384, locals := 33 } : Room).cells ({ frames := 2, cells := 1, slots := 16384, locals := 33 } : Room).slots) := by
  refine MetFree.of_bodySF (plainFor_of_name pn_1) hisR ?_
  intro p e s m args below meth c s₁ Bd hml0 hP hK
  obtain ⟨rfl, hZ, hh⟩ := hP
  have hx := Bd.exec
  have hby := Bd.bytes
  have hml : c.maxLocals = 1 := hml0
  have hown : s.vm.findClass "com/example/execd/execd/io/BodyReader" = some m.cls := findClass_of_methodNamed Bd.named
  have hnm := (name_of_methodNamed Bd.named Bd.method).1
  have X0 : Stand p l e ({ frames := 2, cells := 1, slots := 16384, locals := 33 } : Room) s m #[(.ref aB)] below meth c s₁ [] 0 0 := Stand.of_body Bd
  have e0 : s₁.heap = h0 := by rw [← hh, Bd.state]; rfl
  have N0 := Fr.nil n0
  let PO : Outcome → State → Prop := own_PO s (Q_rmGrow_16384 Z aB zD pL h0 n0) 1 16384
  show own_Go p e below PO (s₁.setTop (entryFrame m #[(.ref aB)] 1))
  rw [ef_rmGrow_16384]
  obtain ⟨ED, kD, vsD, dD, VD⟩ := id LD
  show own_Go p e below PO (s₁.setTop (mkF m 0 #[.val (.ref aB)] []))
  refine own_back ?_ (fun t k => XS.aloadN X0.here hx rfl (hb hby d9_0) rfl rfl k)
  show own_Go p e below PO (s₁.setTop (mkF m 1 #[.val (.ref aB)] [(.ref aB)]))
  refine own_back ?_ (fun t k => XS.aloadN X0.here hx rfl (hb hby d9_1) rfl rfl k)
  show own_Go p e below PO (s₁.setTop (mkF m 2 #[.val (.ref aB)] [(.ref aB), (.ref aB)]))
  obtain ⟨T1, X1, e1, st1⟩ := getF X0 hx hZ hown (host := "") (Or.inl (hw _ (List.mem_of_getElem? (i := 16) rfl))) Via.refl e0 FD (g := (mkF m 2 #[.val (.ref aB)] [(.ref aB), (.ref aB)])) rfl rfl (hb hby d9_2)
  refine own_back ?_ st1
  show own_Go p e below PO (T1.setTop (mkF m 5 #[.val (.ref aB)] [(.ref aD), (.ref aB)]))
  refine own_back ?_ (fun t k => XS.aloadN X1.here hx rfl (hb hby d9_5) rfl rfl k)
  show own_Go p e below PO (T1.setTop (mkF m 6 #[.val (.ref aB)] [(.ref aB), (.ref aD), (.ref aB)]))
  obtain ⟨cq2, kq2, q2a, q2b, q2c⟩ := isOf hZ e1 EB
  obtain ⟨_, _, ⟨T2, L2, k2, n2⟩, -, X2, ⟨Lc2, hQ2, l2, y2, z2⟩, st2⟩ := X1.virtualBack hx (y := (⟨"com/example/execd/execd/io/BodyReader", "nextRoom", "()I"⟩ : MethodName)) (z := (⟨"com/example/execd/execd/io/BodyReader", "nextRoom", "()I"⟩ : MethodName)) hown (mvT hZ (hw _ (List.mem_of_getElem? (i := 55) rfl))) (mvT hZ (hw _ (List.mem_of_getElem? (i := 32) rfl))) (notFace_of_selects (args := #[]) (mvT hZ (hw _ (List.mem_of_getElem? (i := 34) rfl)))) (mvT hZ (hw _ (List.mem_of_getElem? (i := 34) rfl))) (mvT hZ (hw _ (List.mem_of_getElem? (i := 33) rfl))) (by decide) (backOf (W := 2) (rmNext l Z a0 hw [] aB aD zD pL h0 n0 Z0 FD FL FN EB LD neBD) hZ (hw _ (List.mem_of_getElem? (i := 35) rfl)) (hw _ (List.mem_of_getElem? (i := 2) rfl)) (by decide) (by decide)) q2a q2c (g := (mkF m 6 #[.val (.ref aB)] [(.ref aB), (.ref aD), (.ref aB)])) rfl (by rw [hml]; rfl) (Steps.refl _) (argsL := []) (rest := [(.ref aD), (.ref aB)]) (lenOf pd_3 rfl) rfl (by show 2 * 0 + _ ≤ _; exact Nat.le_of_eq rfl) (hb hby d9_6) (fun _ _ => ⟨rfl, e1, (by decide : 0 + 0 ≤ _), (by decide : 0 + 0 ≤ _)⟩)
  dsimp only [Pt.U, Pt.locs, Pt.cells, Pt.slots] at X2 l2 y2 z2 st2 hQ2
  subst l2 y2 z2
  obtain ⟨rfl, N2q, e2⟩ := hQ2
  have N2 := Fr.app N0 N2q
  refine own_back ?_ (fun t k => st2.trans k)
  show own_Go p e below PO (T2.setTop (mkF m 9 #[.val (.ref aB)] [(.int (own_next zD pL)), (.ref aD), (.ref aB)]))
  obtain ⟨_, _, ⟨T3, L3, k3, n3⟩, -, X3, ⟨Lc3, hQ3, l3, y3, z3⟩, st3⟩ := Jvm.LawKit.callS X2 hx (y := (⟨"java/util/Arrays", "copyOf", "([BI)[B"⟩ : MethodName)) hown (mvT hZ (hw _ (List.mem_of_getElem? (i := 56) rfl))) (mvT hZ (hw _ (List.mem_of_getElem? (i := 57) rfl))) (mvT hZ (hw _ (List.mem_of_getElem? (i := 58) rfl))) (mvT hZ (hw _ (List.mem_of_getElem? (i := 59) rfl))) (by decide) (backOf (W := 1) (rmCp_16384 l Z a0 hw [] aD (own_next zD pL) zD h0 n0 Z0 LD LD.nn hN) hZ (hw _ (List.mem_of_getElem? (i := 59) rfl)) (hw _ (List.mem_of_getElem? (i := 58) rfl)) (by decide) (by decide)) (g := (mkF m 9 #[.val (.ref aB)] [(.int (own_next zD pL)), (.ref aD), (.ref aB)])) rfl (by rw [hml]; rfl) (argsL := [(.ref aD), (.int (own_next zD pL))]) (rest := [(.ref aB)]) (lenOf pd_2 rfl) rfl (by show 2 * 0 + _ ≤ _; exact Nat.le_of_eq rfl) (hb hby d9_9) (fun _ _ => ⟨rfl, e2, (by decide : 0 + 1 ≤ _), (by decide : 0 + 16384 ≤ _)⟩)
  dsimp only [Pt.U, Pt.locs, Pt.cells, Pt.slots] at X3 l3 y3 z3 st3 hQ3
  subst l3 y3 z3
  obtain ⟨aN3, rfl, N3q, Kc3, sz3, LN3⟩ := hQ3
  have N3 := Fr.app N2 N3q
  have ne_aB_aN3 : aB ≠ aN3 := Nat.ne_of_lt (Nat.lt_of_lt_of_le EB.lt sz3)
  have ne_aD_aN3 : aD ≠ aN3 := Nat.ne_of_lt (Nat.lt_of_lt_of_le ED.lt sz3)
  have sz_aN3 : h0.size ≤ aN3 := sz3
  have gn_aN3 : n0 ≤ aN3 := Nat.le_trans Z0 sz_aN3
  have K3 : Keep h0 T3.heap [] := (Keep.refl h0 []).trans Kc3 all0
  have Zh3 : n0 ≤ T3.heap.size := Nat.le_trans Z0 K3.1
  refine own_back ?_ st3
  show own_Go p e below PO (T3.setTop (mkF m 12 #[.val (.ref aB)] [(.ref aN3), (.ref aB)]))
  obtain ⟨T4, h4, X4, e4, W4, st4⟩ := putF X3 hx hZ hown (host := "") (Or.inl (hw _ (List.mem_of_getElem? (i := 16) rfl))) Via.refl rfl (FD.keep K3 nin0) (EB.keep K3) (Or.inl (hw _ (List.mem_of_getElem? (i := 17) rfl))) (hw _ (List.mem_of_getElem? (i := 5) rfl)) (ty := (.array .byte)) (by decide) rfl rfl (g := (mkF m 12 #[.val (.ref aB)] [(.ref aN3), (.ref aB)])) rfl rfl (hb hby d9_12)
  have Fw4 := (FD.keep K3 nin0).same W4
  have f4_5 := LN3.keep (Keep.of_wr W4) (ninS (Ne.symm ne_aB_aN3) nin0)
  have f4_6 := LN3.1.wr W4
  have f4_7 := (EB.keep K3).wr W4
  have f4_8 := (FL.keep K3 nin0).other W4 (Or.inr (slot_ne (Or.inr (hw _ (List.mem_of_getElem? (i := 21) rfl))) (Or.inl (hw _ (List.mem_of_getElem? (i := 17) rfl))) (by decide) (t := .int) (t' := (.array .byte)) (by decide) (by decide)))
  have f4_9 := (FN.keep K3 nin0).other W4 (Or.inr (slot_ne (Or.inl (hw _ (List.mem_of_getElem? (i := 49) rfl))) (Or.inl (hw _ (List.mem_of_getElem? (i := 17) rfl))) (by decide) (t := .int) (t' := (.array .byte)) (by decide) (by decide)))
  have K4w : Keep h0 T3.heap [aB] := own_keep_more K3 (by simp)
  have K4 : Keep h0 h4 [aB] := (K4w).wr W4 (Or.inl (by simp))
  have N4 := Fr.snoc X4 N3 gn_aB
  have Zh4 : n0 ≤ h4.size := Nat.le_trans Z0 K4.1
  refine own_back ?_ st4
  show own_Go p e below PO (T4.setTop (mkF m 15 #[.val (.ref aB)] []))
  refine own_retV X4 hx Bd.returns (hb hby d9_15) e4 (Bd.notSynchronized) ?_ (by decide) (by decide)
  exact ⟨rfl, N4, K4, aN3, sz_aN3, Fw4, f4_8, f4_9, f4_5⟩
theorem ef_rmGrow_32768 (m : MethodId) (x0 : Addr) : entryFrame m #[(.ref x0)] 1 = mkF m 0 #[.val (.ref x0)] [] := by first | (simp [entryFrame, mkF, argsToLocals, Value.category]; done) | rfl
def Q_rmGrow_32768 (Z : State) (aB : Addr) (zD pL : Int32) (h0 : Heap) (n0 : Nat) (v : Option Value) (h : Heap) (L : List Loc) : Prop := v = none ∧ Fr n0 L ∧ Keep h0 h [aB] ∧ ∃ aE : Addr, h0.size ≤ aE ∧ Fld Z h aB "com/example/execd/execd/io/BodyReader" "data" "[B" (.ref aE) ∧ Fld Z h aB "com/example/execd/execd/io/BodyReader" "limit" "I" (.int pL) ∧ Fld Z h aB "com/example/execd/execd/io/BodyReader" "length" "I" (.int 0) ∧ own_Len Z h aE (own_next zD pL)
set_option maxRecDepth 65536 in
set_option maxHeartbeats 40000000 in
theorem rmGrow_32768 (l : Launch) (Z : State) (a0 : Array Value) (hw : ∀ d ∈ tables_1, d.before a0 Z = true) (ws : List Jvm.Cond) (aB : Addr) (aD : Addr) (zD pL : Int32) (h0 : Heap) (n0 : Nat) (Z0 : n0 ≤ h0.size) (FD : Fld Z h0 aB "com/example/execd/execd/io/BodyReader" "data" "[B" (.ref aD)) (FL : Fld Z h0 aB "com/example/execd/execd/io/BodyReader" "limit" "I" (.int pL)) (FN : Fld Z h0 aB "com/example/execd/execd/io/BodyReader" "length" "I" (.int 0)) (EB : Exa Z h0 aB "com/example/execd/execd/io/BodyReader") (LD : own_Len Z h0 aD zD) (neBD : aB ≠ aD) (hN : 0 ≤ (own_next zD pL).toInt ∧ (own_next zD pL).toInt ≤ 32768) (gn_aB : n0 ≤ aB) :
    MetFree l (⟨"com/example/execd/execd/io/BodyReader", "grow", "()V"⟩ : MethodName) (head1 (Jvm.Cond.code (⟨"com/example/execd/execd/io/BodyReader", "grow", "()V"⟩ : MethodName) prog_6_method_7_code 1 none :: ws) ({ frames := 2, cells := 1, slots := 32768, locals := 33 } : Room)) (fun a U => a = #[(.ref aB)] ∧ Z.Warmed39 U.vm ∧ U.heap = h0) (fun _ _ _ _ _ => True) (fun _ U o U' => ∃ v L, o = .returned v ∧ Q_rmGrow_32768 Z aB zD pL h0 n0 v U'.heap L ∧ FrameEnd U o U' L ({ frames := 2, cells := 1, slots := 32768, locals := 33 } : Room).cells ({ frames := 2, cells := 1, slots := 32768, locals := 33 } : Room).slots) := by
  refine MetFree.of_bodySF (plainFor_of_name pn_1) hisR ?_
  intro p e s m args below meth c s₁ Bd hml0 hP hK
  obtain ⟨rfl, hZ, hh⟩ := hP
  have hx := Bd.exec
  have hby := Bd.bytes
  have hml : c.maxLocals = 1 := hml0
  have hown : s.vm.findClass "com/example/execd/execd/io/BodyReader" = some m.cls := findClass_of_methodNamed Bd.named
  have hnm := (name_of_methodNamed Bd.named Bd.method).1
  have X0 : Stand p l e ({ frames := 2, cells := 1, slots := 32768, locals := 33 } : Room) s m #[(.ref aB)] below meth c s₁ [] 0 0 := Stand.of_body Bd
  have e0 : s₁.heap = h0 := by rw [← hh, Bd.state]; rfl
  have N0 := Fr.nil n0
  let PO : Outcome → State → Prop := own_PO s (Q_rmGrow_32768 Z aB zD pL h0 n0) 1 32768
  show own_Go p e below PO (s₁.setTop (entryFrame m #[(.ref aB)] 1))
  rw [ef_rmGrow_32768]
  obtain ⟨ED, kD, vsD, dD, VD⟩ := id LD
  show own_Go p e below PO (s₁.setTop (mkF m 0 #[.val (.ref aB)] []))
  refine own_back ?_ (fun t k => XS.aloadN X0.here hx rfl (hb hby d9_0) rfl rfl k)
  show own_Go p e below PO (s₁.setTop (mkF m 1 #[.val (.ref aB)] [(.ref aB)]))
  refine own_back ?_ (fun t k => XS.aloadN X0.here hx rfl (hb hby d9_1) rfl rfl k)
  show own_Go p e below PO (s₁.setTop (mkF m 2 #[.val (.ref aB)] [(.ref aB), (.ref aB)]))
  obtain ⟨T1, X1, e1, st1⟩ := getF X0 hx hZ hown (host := "") (Or.inl (hw _ (List.mem_of_getElem? (i := 16) rfl))) Via.refl e0 FD (g := (mkF m 2 #[.val (.ref aB)] [(.ref aB), (.ref aB)])) rfl rfl (hb hby d9_2)
  refine own_back ?_ st1
  show own_Go p e below PO (T1.setTop (mkF m 5 #[.val (.ref aB)] [(.ref aD), (.ref aB)]))
  refine own_back ?_ (fun t k => XS.aloadN X1.here hx rfl (hb hby d9_5) rfl rfl k)
  show own_Go p e below PO (T1.setTop (mkF m 6 #[.val (.ref aB)] [(.ref aB), (.ref aD), (.ref aB)]))
  obtain ⟨cq2, kq2, q2a, q2b, q2c⟩ := isOf hZ e1 EB
  obtain ⟨_, _, ⟨T2, L2, k2, n2⟩, -, X2, ⟨Lc2, hQ2, l2, y2, z2⟩, st2⟩ := X1.virtualBack hx (y := (⟨"com/example/execd/execd/io/BodyReader", "nextRoom", "()I"⟩ : MethodName)) (z := (⟨"com/example/execd/execd/io/BodyReader", "nextRoom", "()I"⟩ : MethodName)) hown (mvT hZ (hw _ (List.mem_of_getElem? (i := 55) rfl))) (mvT hZ (hw _ (List.mem_of_getElem? (i := 32) rfl))) (notFace_of_selects (args := #[]) (mvT hZ (hw _ (List.mem_of_getElem? (i := 34) rfl)))) (mvT hZ (hw _ (List.mem_of_getElem? (i := 34) rfl))) (mvT hZ (hw _ (List.mem_of_getElem? (i := 33) rfl))) (by decide) (backOf (W := 2) (rmNext l Z a0 hw [] aB aD zD pL h0 n0 Z0 FD FL FN EB LD neBD) hZ (hw _ (List.mem_of_getElem? (i := 35) rfl)) (hw _ (List.mem_of_getElem? (i := 2) rfl)) (by decide) (by decide)) q2a q2c (g := (mkF m 6 #[.val (.ref aB)] [(.ref aB), (.ref aD), (.ref aB)])) rfl (by rw [hml]; rfl) (Steps.refl _) (argsL := []) (rest := [(.ref aD), (.ref aB)]) (lenOf pd_3 rfl) rfl (by show 2 * 0 + _ ≤ _; exact Nat.le_of_eq rfl) (hb hby d9_6) (fun _ _ => ⟨rfl, e1, (by decide : 0 + 0 ≤ _), (by decide : 0 + 0 ≤ _)⟩)
  dsimp only [Pt.U, Pt.locs, Pt.cells, Pt.slots] at X2 l2 y2 z2 st2 hQ2
  subst l2 y2 z2
  obtain ⟨rfl, N2q, e2⟩ := hQ2
  have N2 := Fr.app N0 N2q
  refine own_back ?_ (fun t k => st2.trans k)
  show own_Go p e below PO (T2.setTop (mkF m 9 #[.val (.ref aB)] [(.int (own_next zD pL)), (.ref aD), (.ref aB)]))
  obtain ⟨_, _, ⟨T3, L3, k3, n3⟩, -, X3, ⟨Lc3, hQ3, l3, y3, z3⟩, st3⟩ := Jvm.LawKit.callS X2 hx (y := (⟨"java/util/Arrays", "copyOf", "([BI)[B"⟩ : MethodName)) hown (mvT hZ (hw _ (List.mem_of_getElem? (i := 56) rfl))) (mvT hZ (hw _ (List.mem_of_getElem? (i := 57) rfl))) (mvT hZ (hw _ (List.mem_of_getElem? (i := 58) rfl))) (mvT hZ (hw _ (List.mem_of_getElem? (i := 59) rfl))) (by decide) (backOf (W := 1) (rmCp_32768 l Z a0 hw [] aD (own_next zD pL) zD h0 n0 Z0 LD LD.nn hN) hZ (hw _ (List.mem_of_getElem? (i := 59) rfl)) (hw _ (List.mem_of_getElem? (i := 58) rfl)) (by decide) (by decide)) (g := (mkF m 9 #[.val (.ref aB)] [(.int (own_next zD pL)), (.ref aD), (.ref aB)])) rfl (by rw [hml]; rfl) (argsL := [(.ref aD), (.int (own_next zD pL))]) (rest := [(.ref aB)]) (lenOf pd_2 rfl) rfl (by show 2 * 0 + _ ≤ _; exact Nat.le_of_eq rfl) (hb hby d9_9) (fun _ _ => ⟨rfl, e2, (by decide : 0 + 1 ≤ _), (by decide : 0 + 32768 ≤ _)⟩)
  dsimp only [Pt.U, Pt.locs, Pt.cells, Pt.slots] at X3 l3 y3 z3 st3 hQ3
  subst l3 y3 z3
  obtain ⟨aN3, rfl, N3q, Kc3, sz3, LN3⟩ := hQ3
  have N3 := Fr.app N2 N3q
  have ne_aB_aN3 : aB ≠ aN3 := Nat.ne_of_lt (Nat.lt_of_lt_of_le EB.lt sz3)
  have ne_aD_aN3 : aD ≠ aN3 := Nat.ne_of_lt (Nat.lt_of_lt_of_le ED.lt sz3)
  have sz_aN3 : h0.size ≤ aN3 := sz3
  have gn_aN3 : n0 ≤ aN3 := Nat.le_trans Z0 sz_aN3
  have K3 : Keep h0 T3.heap [] := (Keep.refl h0 []).trans Kc3 all0
  have Zh3 : n0 ≤ T3.heap.size := Nat.le_trans Z0 K3.1
  refine own_back ?_ st3
  show own_Go p e below PO (T3.setTop (mkF m 12 #[.val (.ref aB)] [(.ref aN3), (.ref aB)]))
  obtain ⟨T4, h4, X4, e4, W4, st4⟩ := putF X3 hx hZ hown (host := "") (Or.inl (hw _ (List.mem_of_getElem? (i := 16) rfl))) Via.refl rfl (FD.keep K3 nin0) (EB.keep K3) (Or.inl (hw _ (List.mem_of_getElem? (i := 17) rfl))) (hw _ (List.mem_of_getElem? (i := 5) rfl)) (ty := (.array .byte)) (by decide) rfl rfl (g := (mkF m 12 #[.val (.ref aB)] [(.ref aN3), (.ref aB)])) rfl rfl (hb hby d9_12)
  have Fw4 := (FD.keep K3 nin0).same W4
  have f4_5 := LN3.keep (Keep.of_wr W4) (ninS (Ne.symm ne_aB_aN3) nin0)
  have f4_6 := LN3.1.wr W4
  have f4_7 := (EB.keep K3).wr W4
  have f4_8 := (FL.keep K3 nin0).other W4 (Or.inr (slot_ne (Or.inr (hw _ (List.mem_of_getElem? (i := 21) rfl))) (Or.inl (hw _ (List.mem_of_getElem? (i := 17) rfl))) (by decide) (t := .int) (t' := (.array .byte)) (by decide) (by decide)))
  have f4_9 := (FN.keep K3 nin0).other W4 (Or.inr (slot_ne (Or.inl (hw _ (List.mem_of_getElem? (i := 49) rfl))) (Or.inl (hw _ (List.mem_of_getElem? (i := 17) rfl))) (by decide) (t := .int) (t' := (.array .byte)) (by decide) (by decide)))
  have K4w : Keep h0 T3.heap [aB] := own_keep_more K3 (by simp)
  have K4 : Keep h0 h4 [aB] := (K4w).wr W4 (Or.inl (by simp))
  have N4 := Fr.snoc X4 N3 gn_aB
  have Zh4 : n0 ≤ h4.size := Nat.le_trans Z0 K4.1
  refine own_back ?_ st4
  show own_Go p e below PO (T4.setTop (mkF m 15 #[.val (.ref aB)] []))
  refine own_retV X4 hx Bd.returns (hb hby d9_15) e4 (Bd.notSynchronized) ?_ (by decide) (by decide)
  exact ⟨rfl, N4, K4, aN3, sz_aN3, Fw4, f4_8, f4_9, f4_5⟩

/-! the plain law -/
theorem own_n1 (n : Int32) : own_next 0 n = own_min 16384 n := by
  have e : own_max 16384 (2 * 0) = 16384 := by decide
  unfold own_next; rw [e]
theorem own_n1b {n : Int32} (h : 0 ≤ n.toInt) : 0 ≤ (own_next 0 n).toInt ∧ (own_next 0 n).toInt ≤ 16384 := by
  rw [own_n1]; unfold own_min
  have e : (16384 : Int32).toInt = 16384 := by decide
  split
  · rename_i q; rw [Int32.lt_iff_toInt_lt] at q; omega
  · rename_i q; rw [Int32.lt_iff_toInt_lt] at q; omega
theorem own_n2 {n : Int32} (h : 0 ≤ n.toInt) : own_next (own_next 0 n) n = own_min 32768 n := by
  rw [own_n1]
  by_cases q : n < 16384
  · have q' := Int32.lt_iff_toInt_lt.mp q
    have e : (16384 : Int32).toInt = 16384 := by decide
    have e2 : (32768 : Int32).toInt = 32768 := by decide
    have a1 : own_min 16384 n = n := by unfold own_min; rw [if_pos q]
    have a2 : own_min 32768 n = n := by unfold own_min; rw [if_pos (by rw [Int32.lt_iff_toInt_lt]; omega)]
    rw [a1, a2]
    have c := c_imul 2 n
    have e3 : (2 : Int32).toInt = 2 := by decide
    have r := rng32 (2 * n)
    rw [e3] at c
    unfold own_next own_max own_min
    split
    · rename_i g; rw [Int32.lt_iff_toInt_lt] at g
      split
      · rfl
      · rename_i g2; rw [Int32.lt_iff_toInt_lt] at g2
        apply Int32.toInt_inj.mp; omega
    · first
      | rfl
      | (split
         · rfl
         · rename_i g2; exact absurd q g2)
  · have a1 : own_min 16384 n = 16384 := by unfold own_min; rw [if_neg q]
    rw [a1]
    have e : own_max 16384 (2 * 16384) = 32768 := by decide
    unfold own_next; rw [e]
theorem own_n2b {n : Int32} (h : 0 ≤ n.toInt) : 0 ≤ (own_next (own_next 0 n) n).toInt ∧ (own_next (own_next 0 n) n).toInt ≤ 32768 := by
  rw [own_n2 h]; unfold own_min
  have e : (32768 : Int32).toInt = 32768 := by decide
  split
  · rename_i q; rw [Int32.lt_iff_toInt_lt] at q; omega
  · rename_i q; rw [Int32.lt_iff_toInt_lt] at q; omega
theorem own_ge {n : Int32} (h : ¬ n < 0) : 0 ≤ n.toInt := by
  rw [Int32.lt_iff_toInt_lt] at h; have e0 : (0 : Int32).toInt = 0 := by decide
  omega
theorem own_e1 {n : Int32} (h : n < 16384) : own_next 0 n = n := by rw [own_n1]; unfold own_min; rw [if_pos h]
theorem own_e1' {n : Int32} (h : ¬ n < 16384) : own_next 0 n = 16384 := by rw [own_n1]; unfold own_min; rw [if_neg h]
theorem own_e2b {n : Int32} (h0 : ¬ n < 0) (h : n < 32768) : own_next (own_next 0 n) n = n := by rw [own_n2 (own_ge h0)]; unfold own_min; rw [if_pos h]
theorem own_e2a {n : Int32} (h0 : ¬ n < 0) (h : ¬ (16384 : Int32) < n) : own_next (own_next 0 n) n = n := own_e2b h0 (by
  rw [Int32.lt_iff_toInt_lt] at *
  have e1 : (16384 : Int32).toInt = 16384 := by decide
  have e2 : (32768 : Int32).toInt = 32768 := by decide
  omega)
theorem own_e2c {n : Int32} (h0 : ¬ n < 0) (h : ¬ n < 32768) : own_next (own_next 0 n) n = 32768 := by rw [own_n2 (own_ge h0)]; unfold own_min; rw [if_neg h]
theorem pd_4 : parseMethodDescriptor "(I)Lcom/example/execd/execd/io/BodyReader;" = some ⟨[.int], some (.object "com/example/execd/execd/io/BodyReader")⟩ := by decide +kernel
theorem pd_5 : parseMethodDescriptor "()[B" = some ⟨[], some (.array .byte)⟩ := by decide +kernel
theorem pd_6 : parseMethodDescriptor "()V" = some ⟨[], none⟩ := by decide +kernel
theorem pn_2 : plainName "com/example/execd/execd/io/BodyReaderChunkedPinLaw" = true := by first | (simp [plainName, overriddenIn]; done) | decide +kernel
theorem ef_rm0 (m : MethodId) (x0 : Int32) : entryFrame m #[(.int x0)] maxLocals = mkF m 0 #[.val (.int x0), .unset, .unset, .unset, .unset] [] := by first | (simp [entryFrame, mkF, argsToLocals, Value.category, maxLocals]; done) | rfl
def Q_rm0 (n0 : Nat) (v : Option Value) (h : Heap) (L : List Loc) : Prop := v = some (.int 1) ∧ Fr n0 L
set_option maxRecDepth 65536 in
set_option maxHeartbeats 40000000 in
theorem rm0 (l : Launch) (Z : State) (a0 : Array Value) (hw : ∀ d ∈ tables_1, d.before a0 Z = true) (ws : List Jvm.Cond) (pA : Int32) (a_CHUNK_SIZE : Addr) (h0 : Heap) (n0 : Nat) (Z0 : n0 ≤ h0.size) (S_CHUNK_SIZE : Sta Z h0 "com/example/execd/execd/io/BodyReader$Step" "CHUNK_SIZE" "Lcom/example/execd/execd/io/BodyReader$Step;" (.ref a_CHUNK_SIZE)) :
    MetFree l x (head1 (Jvm.Cond.code x code maxLocals ret :: ws) room_1) (fun a U => a = #[(.int pA)] ∧ Z.Warmed39 U.vm ∧ U.heap = h0) (fun _ _ _ _ _ => True) (fun _ U o U' => ∃ v L, o = .returned v ∧ Q_rm0 n0 v U'.heap L ∧ FrameEnd U o U' L room_1.cells room_1.slots) := by
  refine MetFree.of_bodySF (plainFor_of_name pn_2) hisR ?_
  intro p e s m args below meth c s₁ Bd hml0 hP hK
  obtain ⟨rfl, hZ, hh⟩ := hP
  have hx := Bd.exec
  have hby := Bd.bytes
  have hml : c.maxLocals = 5 := hml0
  have hown : s.vm.findClass "com/example/execd/execd/io/BodyReaderChunkedPinLaw" = some m.cls := findClass_of_methodNamed Bd.named
  have hnm := (name_of_methodNamed Bd.named Bd.method).1
  have X0 : Stand p l e room_1 s m #[(.int pA)] below meth c s₁ [] 0 0 := Stand.of_body Bd
  have e0 : s₁.heap = h0 := by rw [← hh, Bd.state]; rfl
  have N0 := Fr.nil n0
  let PO : Outcome → State → Prop := own_PO s (Q_rm0 n0) 24 98432
  show own_Go p e below PO (s₁.setTop (entryFrame m #[(.int pA)] maxLocals))
  rw [ef_rm0]
  show own_Go p e below PO (s₁.setTop (mkF m 0 #[.val (.int pA), .unset, .unset, .unset, .unset] []))
  refine own_back ?_ (fun t k => XS.iloadN X0.here hx rfl (hb hby at_0) rfl k)
  show own_Go p e below PO (s₁.setTop (mkF m 1 #[.val (.int pA), .unset, .unset, .unset, .unset] [(.int pA)]))
  obtain ⟨_, _, ⟨T1, L1, k1, n1⟩, -, X1, ⟨Lc1, hQ1, l1, y1, z1⟩, st1⟩ := Jvm.LawKit.callS X0 hx (y := (⟨"com/example/execd/execd/io/BodyReader", "chunked", "(I)Lcom/example/execd/execd/io/BodyReader;"⟩ : MethodName)) hown (mvT hZ (hw _ (List.mem_of_getElem? (i := 0) rfl))) (mvT hZ (hw _ (List.mem_of_getElem? (i := 1) rfl))) (mvT hZ (hw _ (List.mem_of_getElem? (i := 2) rfl))) (mvT hZ (hw _ (List.mem_of_getElem? (i := 3) rfl))) (by decide) (backOf (W := 0) (rmMake l Z a0 hw [] pA a_CHUNK_SIZE h0 n0 Z0 S_CHUNK_SIZE) hZ (hw _ (List.mem_of_getElem? (i := 3) rfl)) (hw _ (List.mem_of_getElem? (i := 2) rfl)) (by decide) (by decide)) (g := (mkF m 1 #[.val (.int pA), .unset, .unset, .unset, .unset] [(.int pA)])) rfl (by rw [hml]; rfl) (argsL := [(.int pA)]) (rest := []) (lenOf pd_4 rfl) rfl (by show 2 * 0 + _ ≤ _; exact Nat.le_of_eq rfl) (hb hby at_1) (fun _ _ => ⟨rfl, e0, (by decide : 0 + 2 ≤ _), (by decide : 0 + 9 ≤ _)⟩)
  dsimp only [Pt.U, Pt.locs, Pt.cells, Pt.slots] at X1 l1 y1 z1 st1 hQ1
  subst l1 y1 z1
  obtain ⟨aB, aD, rfl, N1q, Kc1, szB, szD, neBD, EB1, FD1, FL1, FN1, LD1⟩ := hQ1
  have N1 := Fr.app N0 N1q
  have sz_aB : h0.size ≤ aB := szB
  have gn_aB : n0 ≤ aB := Nat.le_trans Z0 sz_aB
  have sz_aD : h0.size ≤ aD := szD
  have gn_aD : n0 ≤ aD := Nat.le_trans Z0 sz_aD
  have K1 : Keep h0 T1.heap [] := (Keep.refl h0 []).trans Kc1 all0
  have Zh1 : n0 ≤ T1.heap.size := Nat.le_trans Z0 K1.1
  refine own_back ?_ st1
  show own_Go p e below PO (T1.setTop (mkF m 4 #[.val (.int pA), .unset, .unset, .unset, .unset] [(.ref aB)]))
  refine own_back ?_ (fun t k => XS.astoreN X1.here hx rfl (hb hby at_4) rfl rfl (l' := #[.val (.int pA), .val (.ref aB), .unset, .unset, .unset]) rfl k)
  show own_Go p e below PO (T1.setTop (mkF m 5 #[.val (.int pA), .val (.ref aB), .unset, .unset, .unset] []))
  refine own_back ?_ (fun t k => XS.iloadN X1.here hx rfl (hb hby at_5) rfl k)
  show own_Go p e below PO (T1.setTop (mkF m 6 #[.val (.int pA), .val (.ref aB), .unset, .unset, .unset] [(.int pA)]))
  refine own_back ?_ (fun t k => XS.sipush X1.here hx rfl (hb hby at_6) k)
  show own_Go p e below PO (T1.setTop (mkF m 9 #[.val (.int pA), .val (.ref aB), .unset, .unset, .unset] [(.int (16384 : Int32)), (.int pA)]))
  by_cases hc9_2 : pA < (16384 : Int32)
  case pos =>
    refine own_back ?_ (fun t k => XS.icmpNo X1.here hx rfl (hb hby at_9) rfl (tlt hc9_2).2.1 k)
    show own_Go p e below PO (T1.setTop (mkF m 12 #[.val (.int pA), .val (.ref aB), .unset, .unset, .unset] []))
    refine own_back ?_ (fun t k => XS.iloadN X1.here hx rfl (hb hby at_12) rfl k)
    show own_Go p e below PO (T1.setTop (mkF m 13 #[.val (.int pA), .val (.ref aB), .unset, .unset, .unset] [(.int pA)]))
    refine own_back ?_ (fun t k => XS.goto X1.here hx rfl (pc0 := 13) (pc' := 19) rfl (hb hby at_13) (by decide) (by decide) k)
    show own_Go p e below PO (T1.setTop (mkF m 19 #[.val (.int pA), .val (.ref aB), .unset, .unset, .unset] [(.int pA)]))
    refine own_back ?_ (fun t k => XS.istoreN X1.here hx rfl (hb hby at_19) rfl (l' := #[.val (.int pA), .val (.ref aB), .val (.int pA), .unset, .unset]) rfl k)
    show own_Go p e below PO (T1.setTop (mkF m 20 #[.val (.int pA), .val (.ref aB), .val (.int pA), .unset, .unset] []))
    refine own_back ?_ (fun t k => XS.aloadN X1.here hx rfl (hb hby at_20) rfl rfl k)
    show own_Go p e below PO (T1.setTop (mkF m 21 #[.val (.int pA), .val (.ref aB), .val (.int pA), .unset, .unset] [(.ref aB)]))
    obtain ⟨cq3, kq3, q3a, q3b, q3c⟩ := isOf hZ rfl EB1
    obtain ⟨_, _, ⟨T3, L3, k3, n3⟩, -, X3, ⟨Lc3, hQ3, l3, y3, z3⟩, st3⟩ := X1.virtualBack hx (y := (⟨"com/example/execd/execd/io/BodyReader", "room", "()I"⟩ : MethodName)) (z := (⟨"com/example/execd/execd/io/BodyReader", "room", "()I"⟩ : MethodName)) hown (mvT hZ (hw _ (List.mem_of_getElem? (i := 26) rfl))) (mvT hZ (hw _ (List.mem_of_getElem? (i := 27) rfl))) (notFace_of_selects (args := #[]) (mvT hZ (hw _ (List.mem_of_getElem? (i := 29) rfl)))) (mvT hZ (hw _ (List.mem_of_getElem? (i := 29) rfl))) (mvT hZ (hw _ (List.mem_of_getElem? (i := 28) rfl))) (by decide) (backOf (W := 0) (rmRoom l Z a0 hw [] aB aD (0 : Int32) pA T1.heap n0 Zh1 FD1 FL1 FN1 EB1 LD1 neBD) hZ (hw _ (List.mem_of_getElem? (i := 30) rfl)) (hw _ (List.mem_of_getElem? (i := 2) rfl)) (by decide) (by decide)) q3a q3c (g := (mkF m 21 #[.val (.int pA), .val (.ref aB), .val (.int pA), .unset, .unset] [(.ref aB)])) rfl (by rw [hml]; rfl) (Steps.refl _) (argsL := []) (rest := []) (lenOf pd_3 rfl) rfl (by show 2 * 0 + _ ≤ _; exact Nat.le_of_eq rfl) (hb hby at_21) (fun _ _ => ⟨rfl, rfl, (by decide : 2 + 0 ≤ _), (by decide : 9 + 0 ≤ _)⟩)
    dsimp only [Pt.U, Pt.locs, Pt.cells, Pt.slots] at X3 l3 y3 z3 st3 hQ3
    subst l3 y3 z3
    obtain ⟨rfl, N3q, e3⟩ := hQ3
    have N3 := Fr.app N1 N3q
    refine own_back ?_ (fun t k => st3.trans k)
    show own_Go p e below PO (T3.setTop (mkF m 24 #[.val (.int pA), .val (.ref aB), .val (.int pA), .unset, .unset] [(.int (0 : Int32))]))
    refine own_back ?_ (fun t k => XS.ifNo X3.here hx rfl (hb hby at_24) rfl ((if0 _ _).trans (teq rfl).2) k)
    show own_Go p e below PO (T3.setTop (mkF m 27 #[.val (.int pA), .val (.ref aB), .val (.int pA), .unset, .unset] []))
    refine own_back ?_ (fun t k => XS.aloadN X3.here hx rfl (hb hby at_27) rfl rfl k)
    show own_Go p e below PO (T3.setTop (mkF m 28 #[.val (.int pA), .val (.ref aB), .val (.int pA), .unset, .unset] [(.ref aB)]))
    obtain ⟨cq4, kq4, q4a, q4b, q4c⟩ := isOf hZ e3 EB1
    obtain ⟨_, _, ⟨T4, L4, k4, n4⟩, -, X4, ⟨Lc4, hQ4, l4, y4, z4⟩, st4⟩ := X3.virtualBack hx (y := (⟨"com/example/execd/execd/io/BodyReader", "nextRoom", "()I"⟩ : MethodName)) (z := (⟨"com/example/execd/execd/io/BodyReader", "nextRoom", "()I"⟩ : MethodName)) hown (mvT hZ (hw _ (List.mem_of_getElem? (i := 31) rfl))) (mvT hZ (hw _ (List.mem_of_getElem? (i := 32) rfl))) (notFace_of_selects (args := #[]) (mvT hZ (hw _ (List.mem_of_getElem? (i := 34) rfl)))) (mvT hZ (hw _ (List.mem_of_getElem? (i := 34) rfl))) (mvT hZ (hw _ (List.mem_of_getElem? (i := 33) rfl))) (by decide) (backOf (W := 0) (rmNext l Z a0 hw [] aB aD (0 : Int32) pA T1.heap n0 Zh1 FD1 FL1 FN1 EB1 LD1 neBD) hZ (hw _ (List.mem_of_getElem? (i := 35) rfl)) (hw _ (List.mem_of_getElem? (i := 2) rfl)) (by decide) (by decide)) q4a q4c (g := (mkF m 28 #[.val (.int pA), .val (.ref aB), .val (.int pA), .unset, .unset] [(.ref aB)])) rfl (by rw [hml]; rfl) (Steps.refl _) (argsL := []) (rest := []) (lenOf pd_3 rfl) rfl (by show 2 * 0 + _ ≤ _; exact Nat.le_of_eq rfl) (hb hby at_28) (fun _ _ => ⟨rfl, e3, (by decide : 2 + 0 ≤ _), (by decide : 9 + 0 ≤ _)⟩)
    dsimp only [Pt.U, Pt.locs, Pt.cells, Pt.slots] at X4 l4 y4 z4 st4 hQ4
    subst l4 y4 z4
    obtain ⟨rfl, N4q, e4⟩ := hQ4
    have N4 := Fr.app N3 N4q
    refine own_back ?_ (fun t k => st4.trans k)
    show own_Go p e below PO (T4.setTop (mkF m 31 #[.val (.int pA), .val (.ref aB), .val (.int pA), .unset, .unset] [(.int (own_next (0 : Int32) pA))]))
    refine own_back ?_ (fun t k => XS.iloadN X4.here hx rfl (hb hby at_31) rfl k)
    show own_Go p e below PO (T4.setTop (mkF m 32 #[.val (.int pA), .val (.ref aB), .val (.int pA), .unset, .unset] [(.int pA), (.int (own_next (0 : Int32) pA))]))
    have hd32_5 : (own_next (0 : Int32) pA) = pA := own_e1 hc9_2
    refine own_back ?_ (fun t k => XS.icmpNo X4.here hx rfl (hb hby at_32) rfl (teq hd32_5).2 k)
    show own_Go p e below PO (T4.setTop (mkF m 35 #[.val (.int pA), .val (.ref aB), .val (.int pA), .unset, .unset] []))
    refine own_back ?_ (fun t k => XS.aloadN X4.here hx rfl (hb hby at_35) rfl rfl k)
    show own_Go p e below PO (T4.setTop (mkF m 36 #[.val (.int pA), .val (.ref aB), .val (.int pA), .unset, .unset] [(.ref aB)]))
    obtain ⟨cq6, kq6, q6a, q6b, q6c⟩ := isOf hZ e4 EB1
    obtain ⟨_, _, ⟨T6, L6, k6, n6⟩, -, X6, ⟨Lc6, hQ6, l6, y6, z6⟩, st6⟩ := X4.virtualBack hx (y := (⟨"com/example/execd/execd/io/BodyReader", "body", "()[B"⟩ : MethodName)) (z := (⟨"com/example/execd/execd/io/BodyReader", "body", "()[B"⟩ : MethodName)) hown (mvT hZ (hw _ (List.mem_of_getElem? (i := 43) rfl))) (mvT hZ (hw _ (List.mem_of_getElem? (i := 44) rfl))) (notFace_of_selects (args := #[]) (mvT hZ (hw _ (List.mem_of_getElem? (i := 46) rfl)))) (mvT hZ (hw _ (List.mem_of_getElem? (i := 46) rfl))) (mvT hZ (hw _ (List.mem_of_getElem? (i := 45) rfl))) (by decide) (backOf (W := 0) (rmBody l Z a0 hw [] aB aD (0 : Int32) pA T1.heap n0 Zh1 FD1 FL1 FN1 EB1 LD1 neBD) hZ (hw _ (List.mem_of_getElem? (i := 47) rfl)) (hw _ (List.mem_of_getElem? (i := 2) rfl)) (by decide) (by decide)) q6a q6c (g := (mkF m 36 #[.val (.int pA), .val (.ref aB), .val (.int pA), .unset, .unset] [(.ref aB)])) rfl (by rw [hml]; rfl) (Steps.refl _) (argsL := []) (rest := []) (lenOf pd_5 rfl) rfl (by show 2 * 0 + _ ≤ _; exact Nat.le_of_eq rfl) (hb hby at_36) (fun _ _ => ⟨rfl, e4, (by decide : 2 + 1 ≤ _), (by decide : 9 + 0 ≤ _)⟩)
    dsimp only [Pt.U, Pt.locs, Pt.cells, Pt.slots] at X6 l6 y6 z6 st6 hQ6
    subst l6 y6 z6
    obtain ⟨aR6, rfl, N6q, Kc6, LR6⟩ := hQ6
    have N6 := Fr.app N4 N6q
    obtain ⟨ER6, kR6, vsR6, dR6, VR6⟩ := LR6
    have f6_7 := EB1.keep Kc6
    have f6_8 := FD1.keep Kc6 nin0
    have f6_9 := FL1.keep Kc6 nin0
    have f6_10 := FN1.keep Kc6 nin0
    have f6_11 := LD1.keep Kc6 nin0
    have f6_12 := LD1.1.keep Kc6
    have K6 : Keep h0 T6.heap [] := (K1).trans Kc6 all0
    have Zh6 : n0 ≤ T6.heap.size := Nat.le_trans Z0 K6.1
    refine own_back ?_ (fun t k => st6.trans k)
    show own_Go p e below PO (T6.setTop (mkF m 39 #[.val (.int pA), .val (.ref aB), .val (.int pA), .unset, .unset] [(.ref aR6)]))
    refine own_back ?_ (own_len X6 hx hZ rfl VR6 (g := (mkF m 39 #[.val (.int pA), .val (.ref aB), .val (.int pA), .unset, .unset] [(.ref aR6)])) rfl rfl (hb hby at_39))
    show own_Go p e below PO (T6.setTop (mkF m 40 #[.val (.int pA), .val (.ref aB), .val (.int pA), .unset, .unset] [(.int (0 : Int32))]))
    refine own_back ?_ (fun t k => XS.ifNo X6.here hx rfl (hb hby at_40) rfl ((if0 _ _).trans (teq rfl).2) k)
    show own_Go p e below PO (T6.setTop (mkF m 43 #[.val (.int pA), .val (.ref aB), .val (.int pA), .unset, .unset] []))
    refine own_back ?_ (fun t k => XS.iconst X6.here hx rfl (hb hby at_43) k)
    show own_Go p e below PO (T6.setTop (mkF m 44 #[.val (.int pA), .val (.ref aB), .val (.int pA), .unset, .unset] [(.int (1 : Int32))]))
    refine own_back ?_ (fun t k => XS.goto X6.here hx rfl (pc0 := 44) (pc' := 48) rfl (hb hby at_44) (by decide) (by decide) k)
    show own_Go p e below PO (T6.setTop (mkF m 48 #[.val (.int pA), .val (.ref aB), .val (.int pA), .unset, .unset] [(.int (1 : Int32))]))
    refine own_back ?_ (fun t k => XS.istoreN X6.here hx rfl (hb hby at_48) rfl (l' := #[.val (.int pA), .val (.ref aB), .val (.int pA), .val (.int (1 : Int32)), .unset]) rfl k)
    show own_Go p e below PO (T6.setTop (mkF m 49 #[.val (.int pA), .val (.ref aB), .val (.int pA), .val (.int (1 : Int32)), .unset] []))
    refine own_back ?_ (fun t k => XS.iloadN X6.here hx rfl (hb hby at_49) rfl k)
    show own_Go p e below PO (T6.setTop (mkF m 50 #[.val (.int pA), .val (.ref aB), .val (.int pA), .val (.int (1 : Int32)), .unset] [(.int pA)]))
    by_cases hc50_13 : pA < (0 : Int32)
    case pos =>
      refine own_back ?_ (fun t k => XS.ifNo X6.here hx rfl (hb hby at_50) rfl ((if0 _ _).trans (tlt hc50_13).2.1) k)
      show own_Go p e below PO (T6.setTop (mkF m 53 #[.val (.int pA), .val (.ref aB), .val (.int pA), .val (.int (1 : Int32)), .unset] []))
      refine own_back ?_ (fun t k => XS.iloadN X6.here hx rfl (hb hby at_53) rfl k)
      show own_Go p e below PO (T6.setTop (mkF m 54 #[.val (.int pA), .val (.ref aB), .val (.int pA), .val (.int (1 : Int32)), .unset] [(.int (1 : Int32))]))
      refine own_retN X6 hx (t := .boolean) (rest := []) Bd.returns (by decide) (by simp) (hb hby at_54) rfl (Bd.notSynchronized) ?_ (by decide) (by decide)
      exact ⟨rfl, N6⟩
    refine own_back ?_ (fun t k => XS.ifYes X6.here hx rfl (pc0 := 50) (pc' := 55) rfl (hb hby at_50) rfl ((if0 _ _).trans (flt hc50_13).2.1) (by decide) (by decide) k)
    show own_Go p e below PO (T6.setTop (mkF m 55 #[.val (.int pA), .val (.ref aB), .val (.int pA), .val (.int (1 : Int32)), .unset] []))
    refine own_back ?_ (fun t k => XS.aloadN X6.here hx rfl (hb hby at_55) rfl rfl k)
    show own_Go p e below PO (T6.setTop (mkF m 56 #[.val (.int pA), .val (.ref aB), .val (.int pA), .val (.int (1 : Int32)), .unset] [(.ref aB)]))
    obtain ⟨cq14, kq14, q14a, q14b, q14c⟩ := isOf hZ rfl f6_7
    obtain ⟨_, _, ⟨T14, L14, k14, n14⟩, -, X14, ⟨Lc14, hQ14, l14, y14, z14⟩, st14⟩ := X6.virtualBack hx (y := (⟨"com/example/execd/execd/io/BodyReader", "grow", "()V"⟩ : MethodName)) (z := (⟨"com/example/execd/execd/io/BodyReader", "grow", "()V"⟩ : MethodName)) hown (mvT hZ (hw _ (List.mem_of_getElem? (i := 50) rfl))) (mvT hZ (hw _ (List.mem_of_getElem? (i := 51) rfl))) (notFace_of_selects (args := #[]) (mvT hZ (hw _ (List.mem_of_getElem? (i := 53) rfl)))) (mvT hZ (hw _ (List.mem_of_getElem? (i := 53) rfl))) (mvT hZ (hw _ (List.mem_of_getElem? (i := 52) rfl))) (by decide) (backOf (W := 0) (rmGrow_16384 l Z a0 hw [] aB aD (0 : Int32) pA T6.heap n0 Zh6 f6_8 f6_9 f6_10 f6_7 f6_11 neBD (own_n1b (own_ge hc50_13)) gn_aB) hZ (hw _ (List.mem_of_getElem? (i := 54) rfl)) (hw _ (List.mem_of_getElem? (i := 2) rfl)) (by decide) (by decide)) q14a q14c (g := (mkF m 56 #[.val (.int pA), .val (.ref aB), .val (.int pA), .val (.int (1 : Int32)), .unset] [(.ref aB)])) rfl (by rw [hml]; rfl) (Steps.refl _) (argsL := []) (rest := []) (lenOf pd_6 rfl) rfl (by show 2 * 0 + _ ≤ _; exact Nat.le_of_eq rfl) (hb hby at_56) (fun _ _ => ⟨rfl, rfl, (by decide : 3 + 1 ≤ _), (by decide : 9 + 16384 ≤ _)⟩)
    dsimp only [Pt.U, Pt.locs, Pt.cells, Pt.slots] at X14 l14 y14 z14 st14 hQ14
    subst l14 y14 z14
    obtain ⟨rfl, N14q, Kc14, aD14, sz14, FD14, FL14, FN14, LD14⟩ := hQ14
    have N14 := Fr.app N6 N14q
    have ne_aB_aD14 : aB ≠ aD14 := Nat.ne_of_lt (Nat.lt_of_lt_of_le f6_7.lt sz14)
    have ne_aD_aD14 : aD ≠ aD14 := Nat.ne_of_lt (Nat.lt_of_lt_of_le f6_12.lt sz14)
    have sz_aD14 : h0.size ≤ aD14 := Nat.le_trans K6.1 sz14
    have gn_aD14 : n0 ≤ aD14 := Nat.le_trans Z0 sz_aD14
    have f14_15 := f6_7.keep Kc14
    have f14_16 := f6_11.keep Kc14 (ninS (Ne.symm neBD) nin0)
    have f14_17 := f6_12.keep Kc14
    have K14 : Keep h0 T14.heap [] := (K6).trans Kc14 (allS (Or.inr sz_aB) all0)
    have Zh14 : n0 ≤ T14.heap.size := Nat.le_trans Z0 K14.1
    refine own_back ?_ (fun t k => st14.trans k)
    show own_Go p e below PO (T14.setTop (mkF m 59 #[.val (.int pA), .val (.ref aB), .val (.int pA), .val (.int (1 : Int32)), .unset] []))
    refine own_back ?_ (fun t k => XS.iloadN X14.here hx rfl (hb hby at_59) rfl k)
    show own_Go p e below PO (T14.setTop (mkF m 60 #[.val (.int pA), .val (.ref aB), .val (.int pA), .val (.int (1 : Int32)), .unset] [(.int (1 : Int32))]))
    have hd60_18 : ¬ ((1 : Int32) = (0 : Int32)) := (by decide)
    refine own_back ?_ (fun t k => XS.ifNo X14.here hx rfl (hb hby at_60) rfl ((if0 _ _).trans (feq hd60_18).1) k)
    show own_Go p e below PO (T14.setTop (mkF m 63 #[.val (.int pA), .val (.ref aB), .val (.int pA), .val (.int (1 : Int32)), .unset] []))
    refine own_back ?_ (fun t k => XS.aloadN X14.here hx rfl (hb hby at_63) rfl rfl k)
    show own_Go p e below PO (T14.setTop (mkF m 64 #[.val (.int pA), .val (.ref aB), .val (.int pA), .val (.int (1 : Int32)), .unset] [(.ref aB)]))
    obtain ⟨cq19, kq19, q19a, q19b, q19c⟩ := isOf hZ rfl f14_15
    obtain ⟨_, _, ⟨T19, L19, k19, n19⟩, -, X19, ⟨Lc19, hQ19, l19, y19, z19⟩, st19⟩ := X14.virtualBack hx (y := (⟨"com/example/execd/execd/io/BodyReader", "room", "()I"⟩ : MethodName)) (z := (⟨"com/example/execd/execd/io/BodyReader", "room", "()I"⟩ : MethodName)) hown (mvT hZ (hw _ (List.mem_of_getElem? (i := 26) rfl))) (mvT hZ (hw _ (List.mem_of_getElem? (i := 27) rfl))) (notFace_of_selects (args := #[]) (mvT hZ (hw _ (List.mem_of_getElem? (i := 29) rfl)))) (mvT hZ (hw _ (List.mem_of_getElem? (i := 29) rfl))) (mvT hZ (hw _ (List.mem_of_getElem? (i := 28) rfl))) (by decide) (backOf (W := 0) (rmRoom l Z a0 hw [] aB aD14 (own_next (0 : Int32) pA) pA T14.heap n0 Zh14 FD14 FL14 FN14 f14_15 LD14 ne_aB_aD14) hZ (hw _ (List.mem_of_getElem? (i := 30) rfl)) (hw _ (List.mem_of_getElem? (i := 2) rfl)) (by decide) (by decide)) q19a q19c (g := (mkF m 64 #[.val (.int pA), .val (.ref aB), .val (.int pA), .val (.int (1 : Int32)), .unset] [(.ref aB)])) rfl (by rw [hml]; rfl) (Steps.refl _) (argsL := []) (rest := []) (lenOf pd_3 rfl) rfl (by show 2 * 0 + _ ≤ _; exact Nat.le_of_eq rfl) (hb hby at_64) (fun _ _ => ⟨rfl, rfl, (by decide : 4 + 0 ≤ _), (by decide : 16393 + 0 ≤ _)⟩)
    dsimp only [Pt.U, Pt.locs, Pt.cells, Pt.slots] at X19 l19 y19 z19 st19 hQ19
    subst l19 y19 z19
    obtain ⟨rfl, N19q, e19⟩ := hQ19
    have N19 := Fr.app N14 N19q
    refine own_back ?_ (fun t k => st19.trans k)
    show own_Go p e below PO (T19.setTop (mkF m 67 #[.val (.int pA), .val (.ref aB), .val (.int pA), .val (.int (1 : Int32)), .unset] [(.int (own_next (0 : Int32) pA))]))
    refine own_back ?_ (fun t k => XS.iloadN X19.here hx rfl (hb hby at_67) rfl k)
    show own_Go p e below PO (T19.setTop (mkF m 68 #[.val (.int pA), .val (.ref aB), .val (.int pA), .val (.int (1 : Int32)), .unset] [(.int pA), (.int (own_next (0 : Int32) pA))]))
    have hd68_20 : (own_next (0 : Int32) pA) = pA := own_e1 hc9_2
    refine own_back ?_ (fun t k => XS.icmpNo X19.here hx rfl (hb hby at_68) rfl (teq hd68_20).2 k)
    show own_Go p e below PO (T19.setTop (mkF m 71 #[.val (.int pA), .val (.ref aB), .val (.int pA), .val (.int (1 : Int32)), .unset] []))
    refine own_back ?_ (fun t k => XS.iconst X19.here hx rfl (hb hby at_71) k)
    show own_Go p e below PO (T19.setTop (mkF m 72 #[.val (.int pA), .val (.ref aB), .val (.int pA), .val (.int (1 : Int32)), .unset] [(.int (1 : Int32))]))
    refine own_back ?_ (fun t k => XS.goto X19.here hx rfl (pc0 := 72) (pc' := 76) rfl (hb hby at_72) (by decide) (by decide) k)
    show own_Go p e below PO (T19.setTop (mkF m 76 #[.val (.int pA), .val (.ref aB), .val (.int pA), .val (.int (1 : Int32)), .unset] [(.int (1 : Int32))]))
    refine own_back ?_ (fun t k => XS.istoreN X19.here hx rfl (hb hby at_76) rfl (l' := #[.val (.int pA), .val (.ref aB), .val (.int pA), .val (.int (1 : Int32)), .unset]) rfl k)
    show own_Go p e below PO (T19.setTop (mkF m 77 #[.val (.int pA), .val (.ref aB), .val (.int pA), .val (.int (1 : Int32)), .unset] []))
    refine own_back ?_ (fun t k => XS.iloadN X19.here hx rfl (hb hby at_77) rfl k)
    show own_Go p e below PO (T19.setTop (mkF m 78 #[.val (.int pA), .val (.ref aB), .val (.int pA), .val (.int (1 : Int32)), .unset] [(.int pA)]))
    refine own_back ?_ (fun t k => XS.sipush X19.here hx rfl (hb hby at_78) k)
    show own_Go p e below PO (T19.setTop (mkF m 81 #[.val (.int pA), .val (.ref aB), .val (.int pA), .val (.int (1 : Int32)), .unset] [(.int (16384 : Int32)), (.int pA)]))
    by_cases hc81_21 : (16384 : Int32) < pA
    case pos =>
      refine own_back ?_ (fun t k => XS.icmpYes X19.here hx rfl (pc0 := 81) (pc' := 90) rfl (hb hby at_81) rfl (tlt hc81_21).2.2.1 (by decide) (by decide) k)
      show own_Go p e below PO (T19.setTop (mkF m 90 #[.val (.int pA), .val (.ref aB), .val (.int pA), .val (.int (1 : Int32)), .unset] []))
      refine own_back ?_ (fun t k => XS.iloadN X19.here hx rfl (hb hby at_90) rfl k)
      show own_Go p e below PO (T19.setTop (mkF m 91 #[.val (.int pA), .val (.ref aB), .val (.int pA), .val (.int (1 : Int32)), .unset] [(.int pA)]))
      refine own_back ?_ (fun t k => X19.ldcInt hx hown (mvT hZ (hw _ (List.mem_of_getElem? (i := 74) rfl))) (g := (mkF m 91 #[.val (.int pA), .val (.ref aB), .val (.int pA), .val (.int (1 : Int32)), .unset] [(.int pA)])) rfl (hb hby at_91) _ k)
      show own_Go p e below PO (T19.setTop (mkF m 93 #[.val (.int pA), .val (.ref aB), .val (.int pA), .val (.int (1 : Int32)), .unset] [(.int (32768 : Int32)), (.int pA)]))
      by_cases hc93_22 : pA < (32768 : Int32)
      case pos =>
        refine own_back ?_ (fun t k => XS.icmpNo X19.here hx rfl (hb hby at_93) rfl (tlt hc93_22).2.1 k)
        show own_Go p e below PO (T19.setTop (mkF m 96 #[.val (.int pA), .val (.ref aB), .val (.int pA), .val (.int (1 : Int32)), .unset] []))
        refine own_back ?_ (fun t k => XS.iloadN X19.here hx rfl (hb hby at_96) rfl k)
        show own_Go p e below PO (T19.setTop (mkF m 97 #[.val (.int pA), .val (.ref aB), .val (.int pA), .val (.int (1 : Int32)), .unset] [(.int pA)]))
        refine own_back ?_ (fun t k => XS.istore X19.here hx rfl (hb hby at_97) rfl (l' := #[.val (.int pA), .val (.ref aB), .val (.int pA), .val (.int (1 : Int32)), .val (.int pA)]) rfl k)
        show own_Go p e below PO (T19.setTop (mkF m 99 #[.val (.int pA), .val (.ref aB), .val (.int pA), .val (.int (1 : Int32)), .val (.int pA)] []))
        refine own_back ?_ (fun t k => XS.goto X19.here hx rfl (pc0 := 99) (pc' := 106) rfl (hb hby at_99) (by decide) (by decide) k)
        show own_Go p e below PO (T19.setTop (mkF m 106 #[.val (.int pA), .val (.ref aB), .val (.int pA), .val (.int (1 : Int32)), .val (.int pA)] []))
        refine own_back ?_ (fun t k => XS.iloadN X19.here hx rfl (hb hby at_106) rfl k)
        show own_Go p e below PO (T19.setTop (mkF m 107 #[.val (.int pA), .val (.ref aB), .val (.int pA), .val (.int (1 : Int32)), .val (.int pA)] [(.int (1 : Int32))]))
        have hd107_23 : ¬ ((1 : Int32) = (0 : Int32)) := (by decide)
        refine own_back ?_ (fun t k => XS.ifNo X19.here hx rfl (hb hby at_107) rfl ((if0 _ _).trans (feq hd107_23).1) k)
        show own_Go p e below PO (T19.setTop (mkF m 110 #[.val (.int pA), .val (.ref aB), .val (.int pA), .val (.int (1 : Int32)), .val (.int pA)] []))
        refine own_back ?_ (fun t k => XS.aloadN X19.here hx rfl (hb hby at_110) rfl rfl k)
        show own_Go p e below PO (T19.setTop (mkF m 111 #[.val (.int pA), .val (.ref aB), .val (.int pA), .val (.int (1 : Int32)), .val (.int pA)] [(.ref aB)]))
        obtain ⟨cq24, kq24, q24a, q24b, q24c⟩ := isOf hZ e19 f14_15
        obtain ⟨_, _, ⟨T24, L24, k24, n24⟩, -, X24, ⟨Lc24, hQ24, l24, y24, z24⟩, st24⟩ := X19.virtualBack hx (y := (⟨"com/example/execd/execd/io/BodyReader", "nextRoom", "()I"⟩ : MethodName)) (z := (⟨"com/example/execd/execd/io/BodyReader", "nextRoom", "()I"⟩ : MethodName)) hown (mvT hZ (hw _ (List.mem_of_getElem? (i := 31) rfl))) (mvT hZ (hw _ (List.mem_of_getElem? (i := 32) rfl))) (notFace_of_selects (args := #[]) (mvT hZ (hw _ (List.mem_of_getElem? (i := 34) rfl)))) (mvT hZ (hw _ (List.mem_of_getElem? (i := 34) rfl))) (mvT hZ (hw _ (List.mem_of_getElem? (i := 33) rfl))) (by decide) (backOf (W := 0) (rmNext l Z a0 hw [] aB aD14 (own_next (0 : Int32) pA) pA T14.heap n0 Zh14 FD14 FL14 FN14 f14_15 LD14 ne_aB_aD14) hZ (hw _ (List.mem_of_getElem? (i := 35) rfl)) (hw _ (List.mem_of_getElem? (i := 2) rfl)) (by decide) (by decide)) q24a q24c (g := (mkF m 111 #[.val (.int pA), .val (.ref aB), .val (.int pA), .val (.int (1 : Int32)), .val (.int pA)] [(.ref aB)])) rfl (by rw [hml]; rfl) (Steps.refl _) (argsL := []) (rest := []) (lenOf pd_3 rfl) rfl (by show 2 * 0 + _ ≤ _; exact Nat.le_of_eq rfl) (hb hby at_111) (fun _ _ => ⟨rfl, e19, (by decide : 4 + 0 ≤ _), (by decide : 16393 + 0 ≤ _)⟩)
        dsimp only [Pt.U, Pt.locs, Pt.cells, Pt.slots] at X24 l24 y24 z24 st24 hQ24
        subst l24 y24 z24
        obtain ⟨rfl, N24q, e24⟩ := hQ24
        have N24 := Fr.app N19 N24q
        refine own_back ?_ (fun t k => st24.trans k)
        show own_Go p e below PO (T24.setTop (mkF m 114 #[.val (.int pA), .val (.ref aB), .val (.int pA), .val (.int (1 : Int32)), .val (.int pA)] [(.int (own_next (own_next (0 : Int32) pA) pA))]))
        refine own_back ?_ (fun t k => XS.iload X24.here hx rfl (hb hby at_114) rfl k)
        show own_Go p e below PO (T24.setTop (mkF m 116 #[.val (.int pA), .val (.ref aB), .val (.int pA), .val (.int (1 : Int32)), .val (.int pA)] [(.int pA), (.int (own_next (own_next (0 : Int32) pA) pA))]))
        have hd116_25 : (own_next (own_next (0 : Int32) pA) pA) = pA := own_e2b hc50_13 hc93_22
        refine own_back ?_ (fun t k => XS.icmpNo X24.here hx rfl (hb hby at_116) rfl (teq hd116_25).2 k)
        show own_Go p e below PO (T24.setTop (mkF m 119 #[.val (.int pA), .val (.ref aB), .val (.int pA), .val (.int (1 : Int32)), .val (.int pA)] []))
        refine own_back ?_ (fun t k => XS.iconst X24.here hx rfl (hb hby at_119) k)
        show own_Go p e below PO (T24.setTop (mkF m 120 #[.val (.int pA), .val (.ref aB), .val (.int pA), .val (.int (1 : Int32)), .val (.int pA)] [(.int (1 : Int32))]))
        refine own_back ?_ (fun t k => XS.goto X24.here hx rfl (pc0 := 120) (pc' := 124) rfl (hb hby at_120) (by decide) (by decide) k)
        show own_Go p e below PO (T24.setTop (mkF m 124 #[.val (.int pA), .val (.ref aB), .val (.int pA), .val (.int (1 : Int32)), .val (.int pA)] [(.int (1 : Int32))]))
        refine own_back ?_ (fun t k => XS.istoreN X24.here hx rfl (hb hby at_124) rfl (l' := #[.val (.int pA), .val (.ref aB), .val (.int pA), .val (.int (1 : Int32)), .val (.int pA)]) rfl k)
        show own_Go p e below PO (T24.setTop (mkF m 125 #[.val (.int pA), .val (.ref aB), .val (.int pA), .val (.int (1 : Int32)), .val (.int pA)] []))
        refine own_back ?_ (fun t k => XS.aloadN X24.here hx rfl (hb hby at_125) rfl rfl k)
        show own_Go p e below PO (T24.setTop (mkF m 126 #[.val (.int pA), .val (.ref aB), .val (.int pA), .val (.int (1 : Int32)), .val (.int pA)] [(.ref aB)]))
        obtain ⟨cq26, kq26, q26a, q26b, q26c⟩ := isOf hZ e24 f14_15
        obtain ⟨_, _, ⟨T26, L26, k26, n26⟩, -, X26, ⟨Lc26, hQ26, l26, y26, z26⟩, st26⟩ := X24.virtualBack hx (y := (⟨"com/example/execd/execd/io/BodyReader", "grow", "()V"⟩ : MethodName)) (z := (⟨"com/example/execd/execd/io/BodyReader", "grow", "()V"⟩ : MethodName)) hown (mvT hZ (hw _ (List.mem_of_getElem? (i := 50) rfl))) (mvT hZ (hw _ (List.mem_of_getElem? (i := 51) rfl))) (notFace_of_selects (args := #[]) (mvT hZ (hw _ (List.mem_of_getElem? (i := 53) rfl)))) (mvT hZ (hw _ (List.mem_of_getElem? (i := 53) rfl))) (mvT hZ (hw _ (List.mem_of_getElem? (i := 52) rfl))) (by decide) (backOf (W := 0) (rmGrow_32768 l Z a0 hw [] aB aD14 (own_next (0 : Int32) pA) pA T14.heap n0 Zh14 FD14 FL14 FN14 f14_15 LD14 ne_aB_aD14 (own_n2b (own_ge hc50_13)) gn_aB) hZ (hw _ (List.mem_of_getElem? (i := 54) rfl)) (hw _ (List.mem_of_getElem? (i := 2) rfl)) (by decide) (by decide)) q26a q26c (g := (mkF m 126 #[.val (.int pA), .val (.ref aB), .val (.int pA), .val (.int (1 : Int32)), .val (.int pA)] [(.ref aB)])) rfl (by rw [hml]; rfl) (Steps.refl _) (argsL := []) (rest := []) (lenOf pd_6 rfl) rfl (by show 2 * 0 + _ ≤ _; exact Nat.le_of_eq rfl) (hb hby at_126) (fun _ _ => ⟨rfl, e24, (by decide : 4 + 1 ≤ _), (by decide : 16393 + 32768 ≤ _)⟩)
        dsimp only [Pt.U, Pt.locs, Pt.cells, Pt.slots] at X26 l26 y26 z26 st26 hQ26
        subst l26 y26 z26
        obtain ⟨rfl, N26q, Kc26, aD26, sz26, FD26, FL26, FN26, LD26⟩ := hQ26
        have N26 := Fr.app N24 N26q
        have ne_aB_aD26 : aB ≠ aD26 := Nat.ne_of_lt (Nat.lt_of_lt_of_le f14_15.lt sz26)
        have ne_aD_aD26 : aD ≠ aD26 := Nat.ne_of_lt (Nat.lt_of_lt_of_le f14_17.lt sz26)
        have ne_aD14_aD26 : aD14 ≠ aD26 := Nat.ne_of_lt (Nat.lt_of_lt_of_le LD14.1.lt sz26)
        have sz_aD26 : h0.size ≤ aD26 := Nat.le_trans K14.1 sz26
        have gn_aD26 : n0 ≤ aD26 := Nat.le_trans Z0 sz_aD26
        have f26_27 := f14_15.keep Kc26
        have f26_28 := f14_16.keep Kc26 (ninS (Ne.symm neBD) nin0)
        have f26_29 := f14_17.keep Kc26
        have f26_30 := LD14.keep Kc26 (ninS (Ne.symm ne_aB_aD14) nin0)
        have f26_31 := LD14.1.keep Kc26
        have K26 : Keep h0 T26.heap [] := (K14).trans Kc26 (allS (Or.inr sz_aB) all0)
        have Zh26 : n0 ≤ T26.heap.size := Nat.le_trans Z0 K26.1
        refine own_back ?_ (fun t k => st26.trans k)
        show own_Go p e below PO (T26.setTop (mkF m 129 #[.val (.int pA), .val (.ref aB), .val (.int pA), .val (.int (1 : Int32)), .val (.int pA)] []))
        refine own_back ?_ (fun t k => XS.iloadN X26.here hx rfl (hb hby at_129) rfl k)
        show own_Go p e below PO (T26.setTop (mkF m 130 #[.val (.int pA), .val (.ref aB), .val (.int pA), .val (.int (1 : Int32)), .val (.int pA)] [(.int (1 : Int32))]))
        have hd130_32 : ¬ ((1 : Int32) = (0 : Int32)) := (by decide)
        refine own_back ?_ (fun t k => XS.ifNo X26.here hx rfl (hb hby at_130) rfl ((if0 _ _).trans (feq hd130_32).1) k)
        show own_Go p e below PO (T26.setTop (mkF m 133 #[.val (.int pA), .val (.ref aB), .val (.int pA), .val (.int (1 : Int32)), .val (.int pA)] []))
        refine own_back ?_ (fun t k => XS.aloadN X26.here hx rfl (hb hby at_133) rfl rfl k)
        show own_Go p e below PO (T26.setTop (mkF m 134 #[.val (.int pA), .val (.ref aB), .val (.int pA), .val (.int (1 : Int32)), .val (.int pA)] [(.ref aB)]))
        obtain ⟨cq33, kq33, q33a, q33b, q33c⟩ := isOf hZ rfl f26_27
        obtain ⟨_, _, ⟨T33, L33, k33, n33⟩, -, X33, ⟨Lc33, hQ33, l33, y33, z33⟩, st33⟩ := X26.virtualBack hx (y := (⟨"com/example/execd/execd/io/BodyReader", "room", "()I"⟩ : MethodName)) (z := (⟨"com/example/execd/execd/io/BodyReader", "room", "()I"⟩ : MethodName)) hown (mvT hZ (hw _ (List.mem_of_getElem? (i := 26) rfl))) (mvT hZ (hw _ (List.mem_of_getElem? (i := 27) rfl))) (notFace_of_selects (args := #[]) (mvT hZ (hw _ (List.mem_of_getElem? (i := 29) rfl)))) (mvT hZ (hw _ (List.mem_of_getElem? (i := 29) rfl))) (mvT hZ (hw _ (List.mem_of_getElem? (i := 28) rfl))) (by decide) (backOf (W := 0) (rmRoom l Z a0 hw [] aB aD26 (own_next (own_next (0 : Int32) pA) pA) pA T26.heap n0 Zh26 FD26 FL26 FN26 f26_27 LD26 ne_aB_aD26) hZ (hw _ (List.mem_of_getElem? (i := 30) rfl)) (hw _ (List.mem_of_getElem? (i := 2) rfl)) (by decide) (by decide)) q33a q33c (g := (mkF m 134 #[.val (.int pA), .val (.ref aB), .val (.int pA), .val (.int (1 : Int32)), .val (.int pA)] [(.ref aB)])) rfl (by rw [hml]; rfl) (Steps.refl _) (argsL := []) (rest := []) (lenOf pd_3 rfl) rfl (by show 2 * 0 + _ ≤ _; exact Nat.le_of_eq rfl) (hb hby at_134) (fun _ _ => ⟨rfl, rfl, (by decide : 5 + 0 ≤ _), (by decide : 49161 + 0 ≤ _)⟩)
        dsimp only [Pt.U, Pt.locs, Pt.cells, Pt.slots] at X33 l33 y33 z33 st33 hQ33
        subst l33 y33 z33
        obtain ⟨rfl, N33q, e33⟩ := hQ33
        have N33 := Fr.app N26 N33q
        refine own_back ?_ (fun t k => st33.trans k)
        show own_Go p e below PO (T33.setTop (mkF m 137 #[.val (.int pA), .val (.ref aB), .val (.int pA), .val (.int (1 : Int32)), .val (.int pA)] [(.int (own_next (own_next (0 : Int32) pA) pA))]))
        refine own_back ?_ (fun t k => XS.iload X33.here hx rfl (hb hby at_137) rfl k)
        show own_Go p e below PO (T33.setTop (mkF m 139 #[.val (.int pA), .val (.ref aB), .val (.int pA), .val (.int (1 : Int32)), .val (.int pA)] [(.int pA), (.int (own_next (own_next (0 : Int32) pA) pA))]))
        have hd139_34 : (own_next (own_next (0 : Int32) pA) pA) = pA := own_e2b hc50_13 hc93_22
        refine own_back ?_ (fun t k => XS.icmpNo X33.here hx rfl (hb hby at_139) rfl (teq hd139_34).2 k)
        show own_Go p e below PO (T33.setTop (mkF m 142 #[.val (.int pA), .val (.ref aB), .val (.int pA), .val (.int (1 : Int32)), .val (.int pA)] []))
        refine own_back ?_ (fun t k => XS.aloadN X33.here hx rfl (hb hby at_142) rfl rfl k)
        show own_Go p e below PO (T33.setTop (mkF m 143 #[.val (.int pA), .val (.ref aB), .val (.int pA), .val (.int (1 : Int32)), .val (.int pA)] [(.ref aB)]))
        obtain ⟨cq35, kq35, q35a, q35b, q35c⟩ := isOf hZ e33 f26_27
        obtain ⟨_, _, ⟨T35, L35, k35, n35⟩, -, X35, ⟨Lc35, hQ35, l35, y35, z35⟩, st35⟩ := X33.virtualBack hx (y := (⟨"com/example/execd/execd/io/BodyReader", "body", "()[B"⟩ : MethodName)) (z := (⟨"com/example/execd/execd/io/BodyReader", "body", "()[B"⟩ : MethodName)) hown (mvT hZ (hw _ (List.mem_of_getElem? (i := 43) rfl))) (mvT hZ (hw _ (List.mem_of_getElem? (i := 44) rfl))) (notFace_of_selects (args := #[]) (mvT hZ (hw _ (List.mem_of_getElem? (i := 46) rfl)))) (mvT hZ (hw _ (List.mem_of_getElem? (i := 46) rfl))) (mvT hZ (hw _ (List.mem_of_getElem? (i := 45) rfl))) (by decide) (backOf (W := 0) (rmBody l Z a0 hw [] aB aD26 (own_next (own_next (0 : Int32) pA) pA) pA T26.heap n0 Zh26 FD26 FL26 FN26 f26_27 LD26 ne_aB_aD26) hZ (hw _ (List.mem_of_getElem? (i := 47) rfl)) (hw _ (List.mem_of_getElem? (i := 2) rfl)) (by decide) (by decide)) q35a q35c (g := (mkF m 143 #[.val (.int pA), .val (.ref aB), .val (.int pA), .val (.int (1 : Int32)), .val (.int pA)] [(.ref aB)])) rfl (by rw [hml]; rfl) (Steps.refl _) (argsL := []) (rest := []) (lenOf pd_5 rfl) rfl (by show 2 * 0 + _ ≤ _; exact Nat.le_of_eq rfl) (hb hby at_143) (fun _ _ => ⟨rfl, e33, (by decide : 5 + 1 ≤ _), (by decide : 49161 + 0 ≤ _)⟩)
        dsimp only [Pt.U, Pt.locs, Pt.cells, Pt.slots] at X35 l35 y35 z35 st35 hQ35
        subst l35 y35 z35
        obtain ⟨aR35, rfl, N35q, Kc35, LR35⟩ := hQ35
        have N35 := Fr.app N33 N35q
        obtain ⟨ER35, kR35, vsR35, dR35, VR35⟩ := LR35
        have f35_36 := f26_27.keep Kc35
        have f35_37 := FD26.keep Kc35 nin0
        have f35_38 := FL26.keep Kc35 nin0
        have f35_39 := FN26.keep Kc35 nin0
        have f35_40 := f26_28.keep Kc35 nin0
        have f35_41 := f26_29.keep Kc35
        have f35_42 := f26_30.keep Kc35 nin0
        have f35_43 := f26_31.keep Kc35
        have f35_44 := LD26.keep Kc35 nin0
        have f35_45 := LD26.1.keep Kc35
        have K35 : Keep h0 T35.heap [] := (K26).trans Kc35 all0
        have Zh35 : n0 ≤ T35.heap.size := Nat.le_trans Z0 K35.1
        refine own_back ?_ (fun t k => st35.trans k)
        show own_Go p e below PO (T35.setTop (mkF m 146 #[.val (.int pA), .val (.ref aB), .val (.int pA), .val (.int (1 : Int32)), .val (.int pA)] [(.ref aR35)]))
        refine own_back ?_ (own_len X35 hx hZ rfl VR35 (g := (mkF m 146 #[.val (.int pA), .val (.ref aB), .val (.int pA), .val (.int (1 : Int32)), .val (.int pA)] [(.ref aR35)])) rfl rfl (hb hby at_146))
        show own_Go p e below PO (T35.setTop (mkF m 147 #[.val (.int pA), .val (.ref aB), .val (.int pA), .val (.int (1 : Int32)), .val (.int pA)] [(.int (0 : Int32))]))
        refine own_back ?_ (fun t k => XS.ifNo X35.here hx rfl (hb hby at_147) rfl ((if0 _ _).trans (teq rfl).2) k)
        show own_Go p e below PO (T35.setTop (mkF m 150 #[.val (.int pA), .val (.ref aB), .val (.int pA), .val (.int (1 : Int32)), .val (.int pA)] []))
        refine own_back ?_ (fun t k => XS.iconst X35.here hx rfl (hb hby at_150) k)
        show own_Go p e below PO (T35.setTop (mkF m 151 #[.val (.int pA), .val (.ref aB), .val (.int pA), .val (.int (1 : Int32)), .val (.int pA)] [(.int (1 : Int32))]))
        refine own_back ?_ (fun t k => XS.goto X35.here hx rfl (pc0 := 151) (pc' := 155) rfl (hb hby at_151) (by decide) (by decide) k)
        show own_Go p e below PO (T35.setTop (mkF m 155 #[.val (.int pA), .val (.ref aB), .val (.int pA), .val (.int (1 : Int32)), .val (.int pA)] [(.int (1 : Int32))]))
        refine own_back ?_ (fun t k => XS.istoreN X35.here hx rfl (hb hby at_155) rfl (l' := #[.val (.int pA), .val (.ref aB), .val (.int pA), .val (.int (1 : Int32)), .val (.int pA)]) rfl k)
        show own_Go p e below PO (T35.setTop (mkF m 156 #[.val (.int pA), .val (.ref aB), .val (.int pA), .val (.int (1 : Int32)), .val (.int pA)] []))
        refine own_back ?_ (fun t k => XS.iloadN X35.here hx rfl (hb hby at_156) rfl k)
        show own_Go p e below PO (T35.setTop (mkF m 157 #[.val (.int pA), .val (.ref aB), .val (.int pA), .val (.int (1 : Int32)), .val (.int pA)] [(.int (1 : Int32))]))
        refine own_retN X35 hx (t := .boolean) (rest := []) Bd.returns (by decide) (by simp) (hb hby at_157) rfl (Bd.notSynchronized) ?_ (by decide) (by decide)
        exact ⟨rfl, N35⟩
      refine own_back ?_ (fun t k => XS.icmpYes X19.here hx rfl (pc0 := 93) (pc' := 102) rfl (hb hby at_93) rfl (flt hc93_22).2.1 (by decide) (by decide) k)
      show own_Go p e below PO (T19.setTop (mkF m 102 #[.val (.int pA), .val (.ref aB), .val (.int pA), .val (.int (1 : Int32)), .unset] []))
      refine own_back ?_ (fun t k => X19.ldcInt hx hown (mvT hZ (hw _ (List.mem_of_getElem? (i := 74) rfl))) (g := (mkF m 102 #[.val (.int pA), .val (.ref aB), .val (.int pA), .val (.int (1 : Int32)), .unset] [])) rfl (hb hby at_102) _ k)
      show own_Go p e below PO (T19.setTop (mkF m 104 #[.val (.int pA), .val (.ref aB), .val (.int pA), .val (.int (1 : Int32)), .unset] [(.int (32768 : Int32))]))
      refine own_back ?_ (fun t k => XS.istore X19.here hx rfl (hb hby at_104) rfl (l' := #[.val (.int pA), .val (.ref aB), .val (.int pA), .val (.int (1 : Int32)), .val (.int (32768 : Int32))]) rfl k)
      show own_Go p e below PO (T19.setTop (mkF m 106 #[.val (.int pA), .val (.ref aB), .val (.int pA), .val (.int (1 : Int32)), .val (.int (32768 : Int32))] []))
      refine own_back ?_ (fun t k => XS.iloadN X19.here hx rfl (hb hby at_106) rfl k)
      show own_Go p e below PO (T19.setTop (mkF m 107 #[.val (.int pA), .val (.ref aB), .val (.int pA), .val (.int (1 : Int32)), .val (.int (32768 : Int32))] [(.int (1 : Int32))]))
      have hd107_46 : ¬ ((1 : Int32) = (0 : Int32)) := (by decide)
      refine own_back ?_ (fun t k => XS.ifNo X19.here hx rfl (hb hby at_107) rfl ((if0 _ _).trans (feq hd107_46).1) k)
      show own_Go p e below PO (T19.setTop (mkF m 110 #[.val (.int pA), .val (.ref aB), .val (.int pA), .val (.int (1 : Int32)), .val (.int (32768 : Int32))] []))
      refine own_back ?_ (fun t k => XS.aloadN X19.here hx rfl (hb hby at_110) rfl rfl k)
      show own_Go p e below PO (T19.setTop (mkF m 111 #[.val (.int pA), .val (.ref aB), .val (.int pA), .val (.int (1 : Int32)), .val (.int (32768 : Int32))] [(.ref aB)]))
      obtain ⟨cq47, kq47, q47a, q47b, q47c⟩ := isOf hZ e19 f14_15
      obtain ⟨_, _, ⟨T47, L47, k47, n47⟩, -, X47, ⟨Lc47, hQ47, l47, y47, z47⟩, st47⟩ := X19.virtualBack hx (y := (⟨"com/example/execd/execd/io/BodyReader", "nextRoom", "()I"⟩ : MethodName)) (z := (⟨"com/example/execd/execd/io/BodyReader", "nextRoom", "()I"⟩ : MethodName)) hown (mvT hZ (hw _ (List.mem_of_getElem? (i := 31) rfl))) (mvT hZ (hw _ (List.mem_of_getElem? (i := 32) rfl))) (notFace_of_selects (args := #[]) (mvT hZ (hw _ (List.mem_of_getElem? (i := 34) rfl)))) (mvT hZ (hw _ (List.mem_of_getElem? (i := 34) rfl))) (mvT hZ (hw _ (List.mem_of_getElem? (i := 33) rfl))) (by decide) (backOf (W := 0) (rmNext l Z a0 hw [] aB aD14 (own_next (0 : Int32) pA) pA T14.heap n0 Zh14 FD14 FL14 FN14 f14_15 LD14 ne_aB_aD14) hZ (hw _ (List.mem_of_getElem? (i := 35) rfl)) (hw _ (List.mem_of_getElem? (i := 2) rfl)) (by decide) (by decide)) q47a q47c (g := (mkF m 111 #[.val (.int pA), .val (.ref aB), .val (.int pA), .val (.int (1 : Int32)), .val (.int (32768 : Int32))] [(.ref aB)])) rfl (by rw [hml]; rfl) (Steps.refl _) (argsL := []) (rest := []) (lenOf pd_3 rfl) rfl (by show 2 * 0 + _ ≤ _; exact Nat.le_of_eq rfl) (hb hby at_111) (fun _ _ => ⟨rfl, e19, (by decide : 4 + 0 ≤ _), (by decide : 16393 + 0 ≤ _)⟩)
      dsimp only [Pt.U, Pt.locs, Pt.cells, Pt.slots] at X47 l47 y47 z47 st47 hQ47
      subst l47 y47 z47
      obtain ⟨rfl, N47q, e47⟩ := hQ47
      have N47 := Fr.app N19 N47q
      refine own_back ?_ (fun t k => st47.trans k)
      show own_Go p e below PO (T47.setTop (mkF m 114 #[.val (.int pA), .val (.ref aB), .val (.int pA), .val (.int (1 : Int32)), .val (.int (32768 : Int32))] [(.int (own_next (own_next (0 : Int32) pA) pA))]))
      refine own_back ?_ (fun t k => XS.iload X47.here hx rfl (hb hby at_114) rfl k)
      show own_Go p e below PO (T47.setTop (mkF m 116 #[.val (.int pA), .val (.ref aB), .val (.int pA), .val (.int (1 : Int32)), .val (.int (32768 : Int32))] [(.int (32768 : Int32)), (.int (own_next (own_next (0 : Int32) pA) pA))]))
      have hd116_48 : (own_next (own_next (0 : Int32) pA) pA) = (32768 : Int32) := own_e2c hc50_13 hc93_22
      refine own_back ?_ (fun t k => XS.icmpNo X47.here hx rfl (hb hby at_116) rfl (teq hd116_48).2 k)
      show own_Go p e below PO (T47.setTop (mkF m 119 #[.val (.int pA), .val (.ref aB), .val (.int pA), .val (.int (1 : Int32)), .val (.int (32768 : Int32))] []))
      refine own_back ?_ (fun t k => XS.iconst X47.here hx rfl (hb hby at_119) k)
      show own_Go p e below PO (T47.setTop (mkF m 120 #[.val (.int pA), .val (.ref aB), .val (.int pA), .val (.int (1 : Int32)), .val (.int (32768 : Int32))] [(.int (1 : Int32))]))
      refine own_back ?_ (fun t k => XS.goto X47.here hx rfl (pc0 := 120) (pc' := 124) rfl (hb hby at_120) (by decide) (by decide) k)
      show own_Go p e below PO (T47.setTop (mkF m 124 #[.val (.int pA), .val (.ref aB), .val (.int pA), .val (.int (1 : Int32)), .val (.int (32768 : Int32))] [(.int (1 : Int32))]))
      refine own_back ?_ (fun t k => XS.istoreN X47.here hx rfl (hb hby at_124) rfl (l' := #[.val (.int pA), .val (.ref aB), .val (.int pA), .val (.int (1 : Int32)), .val (.int (32768 : Int32))]) rfl k)
      show own_Go p e below PO (T47.setTop (mkF m 125 #[.val (.int pA), .val (.ref aB), .val (.int pA), .val (.int (1 : Int32)), .val (.int (32768 : Int32))] []))
      refine own_back ?_ (fun t k => XS.aloadN X47.here hx rfl (hb hby at_125) rfl rfl k)
      show own_Go p e below PO (T47.setTop (mkF m 126 #[.val (.int pA), .val (.ref aB), .val (.int pA), .val (.int (1 : Int32)), .val (.int (32768 : Int32))] [(.ref aB)]))
      obtain ⟨cq49, kq49, q49a, q49b, q49c⟩ := isOf hZ e47 f14_15
      obtain ⟨_, _, ⟨T49, L49, k49, n49⟩, -, X49, ⟨Lc49, hQ49, l49, y49, z49⟩, st49⟩ := X47.virtualBack hx (y := (⟨"com/example/execd/execd/io/BodyReader", "grow", "()V"⟩ : MethodName)) (z := (⟨"com/example/execd/execd/io/BodyReader", "grow", "()V"⟩ : MethodName)) hown (mvT hZ (hw _ (List.mem_of_getElem? (i := 50) rfl))) (mvT hZ (hw _ (List.mem_of_getElem? (i := 51) rfl))) (notFace_of_selects (args := #[]) (mvT hZ (hw _ (List.mem_of_getElem? (i := 53) rfl)))) (mvT hZ (hw _ (List.mem_of_getElem? (i := 53) rfl))) (mvT hZ (hw _ (List.mem_of_getElem? (i := 52) rfl))) (by decide) (backOf (W := 0) (rmGrow_32768 l Z a0 hw [] aB aD14 (own_next (0 : Int32) pA) pA T14.heap n0 Zh14 FD14 FL14 FN14 f14_15 LD14 ne_aB_aD14 (own_n2b (own_ge hc50_13)) gn_aB) hZ (hw _ (List.mem_of_getElem? (i := 54) rfl)) (hw _ (List.mem_of_getElem? (i := 2) rfl)) (by decide) (by decide)) q49a q49c (g := (mkF m 126 #[.val (.int pA), .val (.ref aB), .val (.int pA), .val (.int (1 : Int32)), .val (.int (32768 : Int32))] [(.ref aB)])) rfl (by rw [hml]; rfl) (Steps.refl _) (argsL := []) (rest := []) (lenOf pd_6 rfl) rfl (by show 2 * 0 + _ ≤ _; exact Nat.le_of_eq rfl) (hb hby at_126) (fun _ _ => ⟨rfl, e47, (by decide : 4 + 1 ≤ _), (by decide : 16393 + 32768 ≤ _)⟩)
      dsimp only [Pt.U, Pt.locs, Pt.cells, Pt.slots] at X49 l49 y49 z49 st49 hQ49
      subst l49 y49 z49
      obtain ⟨rfl, N49q, Kc49, aD49, sz49, FD49, FL49, FN49, LD49⟩ := hQ49
      have N49 := Fr.app N47 N49q
      have ne_aB_aD49 : aB ≠ aD49 := Nat.ne_of_lt (Nat.lt_of_lt_of_le f14_15.lt sz49)
      have ne_aD_aD49 : aD ≠ aD49 := Nat.ne_of_lt (Nat.lt_of_lt_of_le f14_17.lt sz49)
      have ne_aD14_aD49 : aD14 ≠ aD49 := Nat.ne_of_lt (Nat.lt_of_lt_of_le LD14.1.lt sz49)
      have sz_aD49 : h0.size ≤ aD49 := Nat.le_trans K14.1 sz49
      have gn_aD49 : n0 ≤ aD49 := Nat.le_trans Z0 sz_aD49
      have f49_50 := f14_15.keep Kc49
      have f49_51 := f14_16.keep Kc49 (ninS (Ne.symm neBD) nin0)
      have f49_52 := f14_17.keep Kc49
      have f49_53 := LD14.keep Kc49 (ninS (Ne.symm ne_aB_aD14) nin0)
      have f49_54 := LD14.1.keep Kc49
      have K49 : Keep h0 T49.heap [] := (K14).trans Kc49 (allS (Or.inr sz_aB) all0)
      have Zh49 : n0 ≤ T49.heap.size := Nat.le_trans Z0 K49.1
      refine own_back ?_ (fun t k => st49.trans k)
      show own_Go p e below PO (T49.setTop (mkF m 129 #[.val (.int pA), .val (.ref aB), .val (.int pA), .val (.int (1 : Int32)), .val (.int (32768 : Int32))] []))
      refine own_back ?_ (fun t k => XS.iloadN X49.here hx rfl (hb hby at_129) rfl k)
      show own_Go p e below PO (T49.setTop (mkF m 130 #[.val (.int pA), .val (.ref aB), .val (.int pA), .val (.int (1 : Int32)), .val (.int (32768 : Int32))] [(.int (1 : Int32))]))
      have hd130_55 : ¬ ((1 : Int32) = (0 : Int32)) := (by decide)
      refine own_back ?_ (fun t k => XS.ifNo X49.here hx rfl (hb hby at_130) rfl ((if0 _ _).trans (feq hd130_55).1) k)
      show own_Go p e below PO (T49.setTop (mkF m 133 #[.val (.int pA), .val (.ref aB), .val (.int pA), .val (.int (1 : Int32)), .val (.int (32768 : Int32))] []))
      refine own_back ?_ (fun t k => XS.aloadN X49.here hx rfl (hb hby at_133) rfl rfl k)
      show own_Go p e below PO (T49.setTop (mkF m 134 #[.val (.int pA), .val (.ref aB), .val (.int pA), .val (.int (1 : Int32)), .val (.int (32768 : Int32))] [(.ref aB)]))
      obtain ⟨cq56, kq56, q56a, q56b, q56c⟩ := isOf hZ rfl f49_50
      obtain ⟨_, _, ⟨T56, L56, k56, n56⟩, -, X56, ⟨Lc56, hQ56, l56, y56, z56⟩, st56⟩ := X49.virtualBack hx (y := (⟨"com/example/execd/execd/io/BodyReader", "room", "()I"⟩ : MethodName)) (z := (⟨"com/example/execd/execd/io/BodyReader", "room", "()I"⟩ : MethodName)) hown (mvT hZ (hw _ (List.mem_of_getElem? (i := 26) rfl))) (mvT hZ (hw _ (List.mem_of_getElem? (i := 27) rfl))) (notFace_of_selects (args := #[]) (mvT hZ (hw _ (List.mem_of_getElem? (i := 29) rfl)))) (mvT hZ (hw _ (List.mem_of_getElem? (i := 29) rfl))) (mvT hZ (hw _ (List.mem_of_getElem? (i := 28) rfl))) (by decide) (backOf (W := 0) (rmRoom l Z a0 hw [] aB aD49 (own_next (own_next (0 : Int32) pA) pA) pA T49.heap n0 Zh49 FD49 FL49 FN49 f49_50 LD49 ne_aB_aD49) hZ (hw _ (List.mem_of_getElem? (i := 30) rfl)) (hw _ (List.mem_of_getElem? (i := 2) rfl)) (by decide) (by decide)) q56a q56c (g := (mkF m 134 #[.val (.int pA), .val (.ref aB), .val (.int pA), .val (.int (1 : Int32)), .val (.int (32768 : Int32))] [(.ref aB)])) rfl (by rw [hml]; rfl) (Steps.refl _) (argsL := []) (rest := []) (lenOf pd_3 rfl) rfl (by show 2 * 0 + _ ≤ _; exact Nat.le_of_eq rfl) (hb hby at_134) (fun _ _ => ⟨rfl, rfl, (by decide : 5 + 0 ≤ _), (by decide : 49161 + 0 ≤ _)⟩)
      dsimp only [Pt.U, Pt.locs, Pt.cells, Pt.slots] at X56 l56 y56 z56 st56 hQ56
      subst l56 y56 z56
      obtain ⟨rfl, N56q, e56⟩ := hQ56
      have N56 := Fr.app N49 N56q
      refine own_back ?_ (fun t k => st56.trans k)
      show own_Go p e below PO (T56.setTop (mkF m 137 #[.val (.int pA), .val (.ref aB), .val (.int pA), .val (.int (1 : Int32)), .val (.int (32768 : Int32))] [(.int (own_next (own_next (0 : Int32) pA) pA))]))
      refine own_back ?_ (fun t k => XS.iload X56.here hx rfl (hb hby at_137) rfl k)
      show own_Go p e below PO (T56.setTop (mkF m 139 #[.val (.int pA), .val (.ref aB), .val (.int pA), .val (.int (1 : Int32)), .val (.int (32768 : Int32))] [(.int (32768 : Int32)), (.int (own_next (own_next (0 : Int32) pA) pA))]))
      have hd139_57 : (own_next (own_next (0 : Int32) pA) pA) = (32768 : Int32) := own_e2c hc50_13 hc93_22
      refine own_back ?_ (fun t k => XS.icmpNo X56.here hx rfl (hb hby at_139) rfl (teq hd139_57).2 k)
      show own_Go p e below PO (T56.setTop (mkF m 142 #[.val (.int pA), .val (.ref aB), .val (.int pA), .val (.int (1 : Int32)), .val (.int (32768 : Int32))] []))
      refine own_back ?_ (fun t k => XS.aloadN X56.here hx rfl (hb hby at_142) rfl rfl k)
      show own_Go p e below PO (T56.setTop (mkF m 143 #[.val (.int pA), .val (.ref aB), .val (.int pA), .val (.int (1 : Int32)), .val (.int (32768 : Int32))] [(.ref aB)]))
      obtain ⟨cq58, kq58, q58a, q58b, q58c⟩ := isOf hZ e56 f49_50
      obtain ⟨_, _, ⟨T58, L58, k58, n58⟩, -, X58, ⟨Lc58, hQ58, l58, y58, z58⟩, st58⟩ := X56.virtualBack hx (y := (⟨"com/example/execd/execd/io/BodyReader", "body", "()[B"⟩ : MethodName)) (z := (⟨"com/example/execd/execd/io/BodyReader", "body", "()[B"⟩ : MethodName)) hown (mvT hZ (hw _ (List.mem_of_getElem? (i := 43) rfl))) (mvT hZ (hw _ (List.mem_of_getElem? (i := 44) rfl))) (notFace_of_selects (args := #[]) (mvT hZ (hw _ (List.mem_of_getElem? (i := 46) rfl)))) (mvT hZ (hw _ (List.mem_of_getElem? (i := 46) rfl))) (mvT hZ (hw _ (List.mem_of_getElem? (i := 45) rfl))) (by decide) (backOf (W := 0) (rmBody l Z a0 hw [] aB aD49 (own_next (own_next (0 : Int32) pA) pA) pA T49.heap n0 Zh49 FD49 FL49 FN49 f49_50 LD49 ne_aB_aD49) hZ (hw _ (List.mem_of_getElem? (i := 47) rfl)) (hw _ (List.mem_of_getElem? (i := 2) rfl)) (by decide) (by decide)) q58a q58c (g := (mkF m 143 #[.val (.int pA), .val (.ref aB), .val (.int pA), .val (.int (1 : Int32)), .val (.int (32768 : Int32))] [(.ref aB)])) rfl (by rw [hml]; rfl) (Steps.refl _) (argsL := []) (rest := []) (lenOf pd_5 rfl) rfl (by show 2 * 0 + _ ≤ _; exact Nat.le_of_eq rfl) (hb hby at_143) (fun _ _ => ⟨rfl, e56, (by decide : 5 + 1 ≤ _), (by decide : 49161 + 0 ≤ _)⟩)
      dsimp only [Pt.U, Pt.locs, Pt.cells, Pt.slots] at X58 l58 y58 z58 st58 hQ58
      subst l58 y58 z58
      obtain ⟨aR58, rfl, N58q, Kc58, LR58⟩ := hQ58
      have N58 := Fr.app N56 N58q
      obtain ⟨ER58, kR58, vsR58, dR58, VR58⟩ := LR58
      have f58_59 := f49_50.keep Kc58
      have f58_60 := FD49.keep Kc58 nin0
      have f58_61 := FL49.keep Kc58 nin0
      have f58_62 := FN49.keep Kc58 nin0
      have f58_63 := f49_51.keep Kc58 nin0
      have f58_64 := f49_52.keep Kc58
      have f58_65 := f49_53.keep Kc58 nin0
      have f58_66 := f49_54.keep Kc58
      have f58_67 := LD49.keep Kc58 nin0
      have f58_68 := LD49.1.keep Kc58
      have K58 : Keep h0 T58.heap [] := (K49).trans Kc58 all0
      have Zh58 : n0 ≤ T58.heap.size := Nat.le_trans Z0 K58.1
      refine own_back ?_ (fun t k => st58.trans k)
      show own_Go p e below PO (T58.setTop (mkF m 146 #[.val (.int pA), .val (.ref aB), .val (.int pA), .val (.int (1 : Int32)), .val (.int (32768 : Int32))] [(.ref aR58)]))
      refine own_back ?_ (own_len X58 hx hZ rfl VR58 (g := (mkF m 146 #[.val (.int pA), .val (.ref aB), .val (.int pA), .val (.int (1 : Int32)), .val (.int (32768 : Int32))] [(.ref aR58)])) rfl rfl (hb hby at_146))
      show own_Go p e below PO (T58.setTop (mkF m 147 #[.val (.int pA), .val (.ref aB), .val (.int pA), .val (.int (1 : Int32)), .val (.int (32768 : Int32))] [(.int (0 : Int32))]))
      refine own_back ?_ (fun t k => XS.ifNo X58.here hx rfl (hb hby at_147) rfl ((if0 _ _).trans (teq rfl).2) k)
      show own_Go p e below PO (T58.setTop (mkF m 150 #[.val (.int pA), .val (.ref aB), .val (.int pA), .val (.int (1 : Int32)), .val (.int (32768 : Int32))] []))
      refine own_back ?_ (fun t k => XS.iconst X58.here hx rfl (hb hby at_150) k)
      show own_Go p e below PO (T58.setTop (mkF m 151 #[.val (.int pA), .val (.ref aB), .val (.int pA), .val (.int (1 : Int32)), .val (.int (32768 : Int32))] [(.int (1 : Int32))]))
      refine own_back ?_ (fun t k => XS.goto X58.here hx rfl (pc0 := 151) (pc' := 155) rfl (hb hby at_151) (by decide) (by decide) k)
      show own_Go p e below PO (T58.setTop (mkF m 155 #[.val (.int pA), .val (.ref aB), .val (.int pA), .val (.int (1 : Int32)), .val (.int (32768 : Int32))] [(.int (1 : Int32))]))
      refine own_back ?_ (fun t k => XS.istoreN X58.here hx rfl (hb hby at_155) rfl (l' := #[.val (.int pA), .val (.ref aB), .val (.int pA), .val (.int (1 : Int32)), .val (.int (32768 : Int32))]) rfl k)
      show own_Go p e below PO (T58.setTop (mkF m 156 #[.val (.int pA), .val (.ref aB), .val (.int pA), .val (.int (1 : Int32)), .val (.int (32768 : Int32))] []))
      refine own_back ?_ (fun t k => XS.iloadN X58.here hx rfl (hb hby at_156) rfl k)
      show own_Go p e below PO (T58.setTop (mkF m 157 #[.val (.int pA), .val (.ref aB), .val (.int pA), .val (.int (1 : Int32)), .val (.int (32768 : Int32))] [(.int (1 : Int32))]))
      refine own_retN X58 hx (t := .boolean) (rest := []) Bd.returns (by decide) (by simp) (hb hby at_157) rfl (Bd.notSynchronized) ?_ (by decide) (by decide)
      exact ⟨rfl, N58⟩
    refine own_back ?_ (fun t k => XS.icmpNo X19.here hx rfl (hb hby at_81) rfl (flt hc81_21).2.2.1 k)
    show own_Go p e below PO (T19.setTop (mkF m 84 #[.val (.int pA), .val (.ref aB), .val (.int pA), .val (.int (1 : Int32)), .unset] []))
    refine own_back ?_ (fun t k => XS.iloadN X19.here hx rfl (hb hby at_84) rfl k)
    show own_Go p e below PO (T19.setTop (mkF m 85 #[.val (.int pA), .val (.ref aB), .val (.int pA), .val (.int (1 : Int32)), .unset] [(.int pA)]))
    refine own_back ?_ (fun t k => XS.istore X19.here hx rfl (hb hby at_85) rfl (l' := #[.val (.int pA), .val (.ref aB), .val (.int pA), .val (.int (1 : Int32)), .val (.int pA)]) rfl k)
    show own_Go p e below PO (T19.setTop (mkF m 87 #[.val (.int pA), .val (.ref aB), .val (.int pA), .val (.int (1 : Int32)), .val (.int pA)] []))
    refine own_back ?_ (fun t k => XS.goto X19.here hx rfl (pc0 := 87) (pc' := 106) rfl (hb hby at_87) (by decide) (by decide) k)
    show own_Go p e below PO (T19.setTop (mkF m 106 #[.val (.int pA), .val (.ref aB), .val (.int pA), .val (.int (1 : Int32)), .val (.int pA)] []))
    refine own_back ?_ (fun t k => XS.iloadN X19.here hx rfl (hb hby at_106) rfl k)
    show own_Go p e below PO (T19.setTop (mkF m 107 #[.val (.int pA), .val (.ref aB), .val (.int pA), .val (.int (1 : Int32)), .val (.int pA)] [(.int (1 : Int32))]))
    have hd107_69 : ¬ ((1 : Int32) = (0 : Int32)) := (by decide)
    refine own_back ?_ (fun t k => XS.ifNo X19.here hx rfl (hb hby at_107) rfl ((if0 _ _).trans (feq hd107_69).1) k)
    show own_Go p e below PO (T19.setTop (mkF m 110 #[.val (.int pA), .val (.ref aB), .val (.int pA), .val (.int (1 : Int32)), .val (.int pA)] []))
    refine own_back ?_ (fun t k => XS.aloadN X19.here hx rfl (hb hby at_110) rfl rfl k)
    show own_Go p e below PO (T19.setTop (mkF m 111 #[.val (.int pA), .val (.ref aB), .val (.int pA), .val (.int (1 : Int32)), .val (.int pA)] [(.ref aB)]))
    obtain ⟨cq70, kq70, q70a, q70b, q70c⟩ := isOf hZ e19 f14_15
    obtain ⟨_, _, ⟨T70, L70, k70, n70⟩, -, X70, ⟨Lc70, hQ70, l70, y70, z70⟩, st70⟩ := X19.virtualBack hx (y := (⟨"com/example/execd/execd/io/BodyReader", "nextRoom", "()I"⟩ : MethodName)) (z := (⟨"com/example/execd/execd/io/BodyReader", "nextRoom", "()I"⟩ : MethodName)) hown (mvT hZ (hw _ (List.mem_of_getElem? (i := 31) rfl))) (mvT hZ (hw _ (List.mem_of_getElem? (i := 32) rfl))) (notFace_of_selects (args := #[]) (mvT hZ (hw _ (List.mem_of_getElem? (i := 34) rfl)))) (mvT hZ (hw _ (List.mem_of_getElem? (i := 34) rfl))) (mvT hZ (hw _ (List.mem_of_getElem? (i := 33) rfl))) (by decide) (backOf (W := 0) (rmNext l Z a0 hw [] aB aD14 (own_next (0 : Int32) pA) pA T14.heap n0 Zh14 FD14 FL14 FN14 f14_15 LD14 ne_aB_aD14) hZ (hw _ (List.mem_of_getElem? (i := 35) rfl)) (hw _ (List.mem_of_getElem? (i := 2) rfl)) (by decide) (by decide)) q70a q70c (g := (mkF m 111 #[.val (.int pA), .val (.ref aB), .val (.int pA), .val (.int (1 : Int32)), .val (.int pA)] [(.ref aB)])) rfl (by rw [hml]; rfl) (Steps.refl _) (argsL := []) (rest := []) (lenOf pd_3 rfl) rfl (by show 2 * 0 + _ ≤ _; exact Nat.le_of_eq rfl) (hb hby at_111) (fun _ _ => ⟨rfl, e19, (by decide : 4 + 0 ≤ _), (by decide : 16393 + 0 ≤ _)⟩)
    dsimp only [Pt.U, Pt.locs, Pt.cells, Pt.slots] at X70 l70 y70 z70 st70 hQ70
    subst l70 y70 z70
    obtain ⟨rfl, N70q, e70⟩ := hQ70
    have N70 := Fr.app N19 N70q
    refine own_back ?_ (fun t k => st70.trans k)
    show own_Go p e below PO (T70.setTop (mkF m 114 #[.val (.int pA), .val (.ref aB), .val (.int pA), .val (.int (1 : Int32)), .val (.int pA)] [(.int (own_next (own_next (0 : Int32) pA) pA))]))
    refine own_back ?_ (fun t k => XS.iload X70.here hx rfl (hb hby at_114) rfl k)
    show own_Go p e below PO (T70.setTop (mkF m 116 #[.val (.int pA), .val (.ref aB), .val (.int pA), .val (.int (1 : Int32)), .val (.int pA)] [(.int pA), (.int (own_next (own_next (0 : Int32) pA) pA))]))
    have hd116_71 : (own_next (own_next (0 : Int32) pA) pA) = pA := own_e2a hc50_13 hc81_21
    refine own_back ?_ (fun t k => XS.icmpNo X70.here hx rfl (hb hby at_116) rfl (teq hd116_71).2 k)
    show own_Go p e below PO (T70.setTop (mkF m 119 #[.val (.int pA), .val (.ref aB), .val (.int pA), .val (.int (1 : Int32)), .val (.int pA)] []))
    refine own_back ?_ (fun t k => XS.iconst X70.here hx rfl (hb hby at_119) k)
    show own_Go p e below PO (T70.setTop (mkF m 120 #[.val (.int pA), .val (.ref aB), .val (.int pA), .val (.int (1 : Int32)), .val (.int pA)] [(.int (1 : Int32))]))
    refine own_back ?_ (fun t k => XS.goto X70.here hx rfl (pc0 := 120) (pc' := 124) rfl (hb hby at_120) (by decide) (by decide) k)
    show own_Go p e below PO (T70.setTop (mkF m 124 #[.val (.int pA), .val (.ref aB), .val (.int pA), .val (.int (1 : Int32)), .val (.int pA)] [(.int (1 : Int32))]))
    refine own_back ?_ (fun t k => XS.istoreN X70.here hx rfl (hb hby at_124) rfl (l' := #[.val (.int pA), .val (.ref aB), .val (.int pA), .val (.int (1 : Int32)), .val (.int pA)]) rfl k)
    show own_Go p e below PO (T70.setTop (mkF m 125 #[.val (.int pA), .val (.ref aB), .val (.int pA), .val (.int (1 : Int32)), .val (.int pA)] []))
    refine own_back ?_ (fun t k => XS.aloadN X70.here hx rfl (hb hby at_125) rfl rfl k)
    show own_Go p e below PO (T70.setTop (mkF m 126 #[.val (.int pA), .val (.ref aB), .val (.int pA), .val (.int (1 : Int32)), .val (.int pA)] [(.ref aB)]))
    obtain ⟨cq72, kq72, q72a, q72b, q72c⟩ := isOf hZ e70 f14_15
    obtain ⟨_, _, ⟨T72, L72, k72, n72⟩, -, X72, ⟨Lc72, hQ72, l72, y72, z72⟩, st72⟩ := X70.virtualBack hx (y := (⟨"com/example/execd/execd/io/BodyReader", "grow", "()V"⟩ : MethodName)) (z := (⟨"com/example/execd/execd/io/BodyReader", "grow", "()V"⟩ : MethodName)) hown (mvT hZ (hw _ (List.mem_of_getElem? (i := 50) rfl))) (mvT hZ (hw _ (List.mem_of_getElem? (i := 51) rfl))) (notFace_of_selects (args := #[]) (mvT hZ (hw _ (List.mem_of_getElem? (i := 53) rfl)))) (mvT hZ (hw _ (List.mem_of_getElem? (i := 53) rfl))) (mvT hZ (hw _ (List.mem_of_getElem? (i := 52) rfl))) (by decide) (backOf (W := 0) (rmGrow_32768 l Z a0 hw [] aB aD14 (own_next (0 : Int32) pA) pA T14.heap n0 Zh14 FD14 FL14 FN14 f14_15 LD14 ne_aB_aD14 (own_n2b (own_ge hc50_13)) gn_aB) hZ (hw _ (List.mem_of_getElem? (i := 54) rfl)) (hw _ (List.mem_of_getElem? (i := 2) rfl)) (by decide) (by decide)) q72a q72c (g := (mkF m 126 #[.val (.int pA), .val (.ref aB), .val (.int pA), .val (.int (1 : Int32)), .val (.int pA)] [(.ref aB)])) rfl (by rw [hml]; rfl) (Steps.refl _) (argsL := []) (rest := []) (lenOf pd_6 rfl) rfl (by show 2 * 0 + _ ≤ _; exact Nat.le_of_eq rfl) (hb hby at_126) (fun _ _ => ⟨rfl, e70, (by decide : 4 + 1 ≤ _), (by decide : 16393 + 32768 ≤ _)⟩)
    dsimp only [Pt.U, Pt.locs, Pt.cells, Pt.slots] at X72 l72 y72 z72 st72 hQ72
    subst l72 y72 z72
    obtain ⟨rfl, N72q, Kc72, aD72, sz72, FD72, FL72, FN72, LD72⟩ := hQ72
    have N72 := Fr.app N70 N72q
    have ne_aB_aD72 : aB ≠ aD72 := Nat.ne_of_lt (Nat.lt_of_lt_of_le f14_15.lt sz72)
    have ne_aD_aD72 : aD ≠ aD72 := Nat.ne_of_lt (Nat.lt_of_lt_of_le f14_17.lt sz72)
    have ne_aD14_aD72 : aD14 ≠ aD72 := Nat.ne_of_lt (Nat.lt_of_lt_of_le LD14.1.lt sz72)
    have sz_aD72 : h0.size ≤ aD72 := Nat.le_trans K14.1 sz72
    have gn_aD72 : n0 ≤ aD72 := Nat.le_trans Z0 sz_aD72
    have f72_73 := f14_15.keep Kc72
    have f72_74 := f14_16.keep Kc72 (ninS (Ne.symm neBD) nin0)
    have f72_75 := f14_17.keep Kc72
    have f72_76 := LD14.keep Kc72 (ninS (Ne.symm ne_aB_aD14) nin0)
    have f72_77 := LD14.1.keep Kc72
    have K72 : Keep h0 T72.heap [] := (K14).trans Kc72 (allS (Or.inr sz_aB) all0)
    have Zh72 : n0 ≤ T72.heap.size := Nat.le_trans Z0 K72.1
    refine own_back ?_ (fun t k => st72.trans k)
    show own_Go p e below PO (T72.setTop (mkF m 129 #[.val (.int pA), .val (.ref aB), .val (.int pA), .val (.int (1 : Int32)), .val (.int pA)] []))
    refine own_back ?_ (fun t k => XS.iloadN X72.here hx rfl (hb hby at_129) rfl k)
    show own_Go p e below PO (T72.setTop (mkF m 130 #[.val (.int pA), .val (.ref aB), .val (.int pA), .val (.int (1 : Int32)), .val (.int pA)] [(.int (1 : Int32))]))
    have hd130_78 : ¬ ((1 : Int32) = (0 : Int32)) := (by decide)
    refine own_back ?_ (fun t k => XS.ifNo X72.here hx rfl (hb hby at_130) rfl ((if0 _ _).trans (feq hd130_78).1) k)
    show own_Go p e below PO (T72.setTop (mkF m 133 #[.val (.int pA), .val (.ref aB), .val (.int pA), .val (.int (1 : Int32)), .val (.int pA)] []))
    refine own_back ?_ (fun t k => XS.aloadN X72.here hx rfl (hb hby at_133) rfl rfl k)
    show own_Go p e below PO (T72.setTop (mkF m 134 #[.val (.int pA), .val (.ref aB), .val (.int pA), .val (.int (1 : Int32)), .val (.int pA)] [(.ref aB)]))
    obtain ⟨cq79, kq79, q79a, q79b, q79c⟩ := isOf hZ rfl f72_73
    obtain ⟨_, _, ⟨T79, L79, k79, n79⟩, -, X79, ⟨Lc79, hQ79, l79, y79, z79⟩, st79⟩ := X72.virtualBack hx (y := (⟨"com/example/execd/execd/io/BodyReader", "room", "()I"⟩ : MethodName)) (z := (⟨"com/example/execd/execd/io/BodyReader", "room", "()I"⟩ : MethodName)) hown (mvT hZ (hw _ (List.mem_of_getElem? (i := 26) rfl))) (mvT hZ (hw _ (List.mem_of_getElem? (i := 27) rfl))) (notFace_of_selects (args := #[]) (mvT hZ (hw _ (List.mem_of_getElem? (i := 29) rfl)))) (mvT hZ (hw _ (List.mem_of_getElem? (i := 29) rfl))) (mvT hZ (hw _ (List.mem_of_getElem? (i := 28) rfl))) (by decide) (backOf (W := 0) (rmRoom l Z a0 hw [] aB aD72 (own_next (own_next (0 : Int32) pA) pA) pA T72.heap n0 Zh72 FD72 FL72 FN72 f72_73 LD72 ne_aB_aD72) hZ (hw _ (List.mem_of_getElem? (i := 30) rfl)) (hw _ (List.mem_of_getElem? (i := 2) rfl)) (by decide) (by decide)) q79a q79c (g := (mkF m 134 #[.val (.int pA), .val (.ref aB), .val (.int pA), .val (.int (1 : Int32)), .val (.int pA)] [(.ref aB)])) rfl (by rw [hml]; rfl) (Steps.refl _) (argsL := []) (rest := []) (lenOf pd_3 rfl) rfl (by show 2 * 0 + _ ≤ _; exact Nat.le_of_eq rfl) (hb hby at_134) (fun _ _ => ⟨rfl, rfl, (by decide : 5 + 0 ≤ _), (by decide : 49161 + 0 ≤ _)⟩)
    dsimp only [Pt.U, Pt.locs, Pt.cells, Pt.slots] at X79 l79 y79 z79 st79 hQ79
    subst l79 y79 z79
    obtain ⟨rfl, N79q, e79⟩ := hQ79
    have N79 := Fr.app N72 N79q
    refine own_back ?_ (fun t k => st79.trans k)
    show own_Go p e below PO (T79.setTop (mkF m 137 #[.val (.int pA), .val (.ref aB), .val (.int pA), .val (.int (1 : Int32)), .val (.int pA)] [(.int (own_next (own_next (0 : Int32) pA) pA))]))
    refine own_back ?_ (fun t k => XS.iload X79.here hx rfl (hb hby at_137) rfl k)
    show own_Go p e below PO (T79.setTop (mkF m 139 #[.val (.int pA), .val (.ref aB), .val (.int pA), .val (.int (1 : Int32)), .val (.int pA)] [(.int pA), (.int (own_next (own_next (0 : Int32) pA) pA))]))
    have hd139_80 : (own_next (own_next (0 : Int32) pA) pA) = pA := own_e2a hc50_13 hc81_21
    refine own_back ?_ (fun t k => XS.icmpNo X79.here hx rfl (hb hby at_139) rfl (teq hd139_80).2 k)
    show own_Go p e below PO (T79.setTop (mkF m 142 #[.val (.int pA), .val (.ref aB), .val (.int pA), .val (.int (1 : Int32)), .val (.int pA)] []))
    refine own_back ?_ (fun t k => XS.aloadN X79.here hx rfl (hb hby at_142) rfl rfl k)
    show own_Go p e below PO (T79.setTop (mkF m 143 #[.val (.int pA), .val (.ref aB), .val (.int pA), .val (.int (1 : Int32)), .val (.int pA)] [(.ref aB)]))
    obtain ⟨cq81, kq81, q81a, q81b, q81c⟩ := isOf hZ e79 f72_73
    obtain ⟨_, _, ⟨T81, L81, k81, n81⟩, -, X81, ⟨Lc81, hQ81, l81, y81, z81⟩, st81⟩ := X79.virtualBack hx (y := (⟨"com/example/execd/execd/io/BodyReader", "body", "()[B"⟩ : MethodName)) (z := (⟨"com/example/execd/execd/io/BodyReader", "body", "()[B"⟩ : MethodName)) hown (mvT hZ (hw _ (List.mem_of_getElem? (i := 43) rfl))) (mvT hZ (hw _ (List.mem_of_getElem? (i := 44) rfl))) (notFace_of_selects (args := #[]) (mvT hZ (hw _ (List.mem_of_getElem? (i := 46) rfl)))) (mvT hZ (hw _ (List.mem_of_getElem? (i := 46) rfl))) (mvT hZ (hw _ (List.mem_of_getElem? (i := 45) rfl))) (by decide) (backOf (W := 0) (rmBody l Z a0 hw [] aB aD72 (own_next (own_next (0 : Int32) pA) pA) pA T72.heap n0 Zh72 FD72 FL72 FN72 f72_73 LD72 ne_aB_aD72) hZ (hw _ (List.mem_of_getElem? (i := 47) rfl)) (hw _ (List.mem_of_getElem? (i := 2) rfl)) (by decide) (by decide)) q81a q81c (g := (mkF m 143 #[.val (.int pA), .val (.ref aB), .val (.int pA), .val (.int (1 : Int32)), .val (.int pA)] [(.ref aB)])) rfl (by rw [hml]; rfl) (Steps.refl _) (argsL := []) (rest := []) (lenOf pd_5 rfl) rfl (by show 2 * 0 + _ ≤ _; exact Nat.le_of_eq rfl) (hb hby at_143) (fun _ _ => ⟨rfl, e79, (by decide : 5 + 1 ≤ _), (by decide : 49161 + 0 ≤ _)⟩)
    dsimp only [Pt.U, Pt.locs, Pt.cells, Pt.slots] at X81 l81 y81 z81 st81 hQ81
    subst l81 y81 z81
    obtain ⟨aR81, rfl, N81q, Kc81, LR81⟩ := hQ81
    have N81 := Fr.app N79 N81q
    obtain ⟨ER81, kR81, vsR81, dR81, VR81⟩ := LR81
    have f81_82 := f72_73.keep Kc81
    have f81_83 := FD72.keep Kc81 nin0
    have f81_84 := FL72.keep Kc81 nin0
    have f81_85 := FN72.keep Kc81 nin0
    have f81_86 := f72_74.keep Kc81 nin0
    have f81_87 := f72_75.keep Kc81
    have f81_88 := f72_76.keep Kc81 nin0
    have f81_89 := f72_77.keep Kc81
    have f81_90 := LD72.keep Kc81 nin0
    have f81_91 := LD72.1.keep Kc81
    have K81 : Keep h0 T81.heap [] := (K72).trans Kc81 all0
    have Zh81 : n0 ≤ T81.heap.size := Nat.le_trans Z0 K81.1
    refine own_back ?_ (fun t k => st81.trans k)
    show own_Go p e below PO (T81.setTop (mkF m 146 #[.val (.int pA), .val (.ref aB), .val (.int pA), .val (.int (1 : Int32)), .val (.int pA)] [(.ref aR81)]))
    refine own_back ?_ (own_len X81 hx hZ rfl VR81 (g := (mkF m 146 #[.val (.int pA), .val (.ref aB), .val (.int pA), .val (.int (1 : Int32)), .val (.int pA)] [(.ref aR81)])) rfl rfl (hb hby at_146))
    show own_Go p e below PO (T81.setTop (mkF m 147 #[.val (.int pA), .val (.ref aB), .val (.int pA), .val (.int (1 : Int32)), .val (.int pA)] [(.int (0 : Int32))]))
    refine own_back ?_ (fun t k => XS.ifNo X81.here hx rfl (hb hby at_147) rfl ((if0 _ _).trans (teq rfl).2) k)
    show own_Go p e below PO (T81.setTop (mkF m 150 #[.val (.int pA), .val (.ref aB), .val (.int pA), .val (.int (1 : Int32)), .val (.int pA)] []))
    refine own_back ?_ (fun t k => XS.iconst X81.here hx rfl (hb hby at_150) k)
    show own_Go p e below PO (T81.setTop (mkF m 151 #[.val (.int pA), .val (.ref aB), .val (.int pA), .val (.int (1 : Int32)), .val (.int pA)] [(.int (1 : Int32))]))
    refine own_back ?_ (fun t k => XS.goto X81.here hx rfl (pc0 := 151) (pc' := 155) rfl (hb hby at_151) (by decide) (by decide) k)
    show own_Go p e below PO (T81.setTop (mkF m 155 #[.val (.int pA), .val (.ref aB), .val (.int pA), .val (.int (1 : Int32)), .val (.int pA)] [(.int (1 : Int32))]))
    refine own_back ?_ (fun t k => XS.istoreN X81.here hx rfl (hb hby at_155) rfl (l' := #[.val (.int pA), .val (.ref aB), .val (.int pA), .val (.int (1 : Int32)), .val (.int pA)]) rfl k)
    show own_Go p e below PO (T81.setTop (mkF m 156 #[.val (.int pA), .val (.ref aB), .val (.int pA), .val (.int (1 : Int32)), .val (.int pA)] []))
    refine own_back ?_ (fun t k => XS.iloadN X81.here hx rfl (hb hby at_156) rfl k)
    show own_Go p e below PO (T81.setTop (mkF m 157 #[.val (.int pA), .val (.ref aB), .val (.int pA), .val (.int (1 : Int32)), .val (.int pA)] [(.int (1 : Int32))]))
    refine own_retN X81 hx (t := .boolean) (rest := []) Bd.returns (by decide) (by simp) (hb hby at_157) rfl (Bd.notSynchronized) ?_ (by decide) (by decide)
    exact ⟨rfl, N81⟩
  refine own_back ?_ (fun t k => XS.icmpYes X1.here hx rfl (pc0 := 9) (pc' := 16) rfl (hb hby at_9) rfl (flt hc9_2).2.1 (by decide) (by decide) k)
  show own_Go p e below PO (T1.setTop (mkF m 16 #[.val (.int pA), .val (.ref aB), .unset, .unset, .unset] []))
  refine own_back ?_ (fun t k => XS.sipush X1.here hx rfl (hb hby at_16) k)
  show own_Go p e below PO (T1.setTop (mkF m 19 #[.val (.int pA), .val (.ref aB), .unset, .unset, .unset] [(.int (16384 : Int32))]))
  refine own_back ?_ (fun t k => XS.istoreN X1.here hx rfl (hb hby at_19) rfl (l' := #[.val (.int pA), .val (.ref aB), .val (.int (16384 : Int32)), .unset, .unset]) rfl k)
  show own_Go p e below PO (T1.setTop (mkF m 20 #[.val (.int pA), .val (.ref aB), .val (.int (16384 : Int32)), .unset, .unset] []))
  refine own_back ?_ (fun t k => XS.aloadN X1.here hx rfl (hb hby at_20) rfl rfl k)
  show own_Go p e below PO (T1.setTop (mkF m 21 #[.val (.int pA), .val (.ref aB), .val (.int (16384 : Int32)), .unset, .unset] [(.ref aB)]))
  obtain ⟨cq92, kq92, q92a, q92b, q92c⟩ := isOf hZ rfl EB1
  obtain ⟨_, _, ⟨T92, L92, k92, n92⟩, -, X92, ⟨Lc92, hQ92, l92, y92, z92⟩, st92⟩ := X1.virtualBack hx (y := (⟨"com/example/execd/execd/io/BodyReader", "room", "()I"⟩ : MethodName)) (z := (⟨"com/example/execd/execd/io/BodyReader", "room", "()I"⟩ : MethodName)) hown (mvT hZ (hw _ (List.mem_of_getElem? (i := 26) rfl))) (mvT hZ (hw _ (List.mem_of_getElem? (i := 27) rfl))) (notFace_of_selects (args := #[]) (mvT hZ (hw _ (List.mem_of_getElem? (i := 29) rfl)))) (mvT hZ (hw _ (List.mem_of_getElem? (i := 29) rfl))) (mvT hZ (hw _ (List.mem_of_getElem? (i := 28) rfl))) (by decide) (backOf (W := 0) (rmRoom l Z a0 hw [] aB aD (0 : Int32) pA T1.heap n0 Zh1 FD1 FL1 FN1 EB1 LD1 neBD) hZ (hw _ (List.mem_of_getElem? (i := 30) rfl)) (hw _ (List.mem_of_getElem? (i := 2) rfl)) (by decide) (by decide)) q92a q92c (g := (mkF m 21 #[.val (.int pA), .val (.ref aB), .val (.int (16384 : Int32)), .unset, .unset] [(.ref aB)])) rfl (by rw [hml]; rfl) (Steps.refl _) (argsL := []) (rest := []) (lenOf pd_3 rfl) rfl (by show 2 * 0 + _ ≤ _; exact Nat.le_of_eq rfl) (hb hby at_21) (fun _ _ => ⟨rfl, rfl, (by decide : 2 + 0 ≤ _), (by decide : 9 + 0 ≤ _)⟩)
  dsimp only [Pt.U, Pt.locs, Pt.cells, Pt.slots] at X92 l92 y92 z92 st92 hQ92
  subst l92 y92 z92
  obtain ⟨rfl, N92q, e92⟩ := hQ92
  have N92 := Fr.app N1 N92q
  refine own_back ?_ (fun t k => st92.trans k)
  show own_Go p e below PO (T92.setTop (mkF m 24 #[.val (.int pA), .val (.ref aB), .val (.int (16384 : Int32)), .unset, .unset] [(.int (0 : Int32))]))
  refine own_back ?_ (fun t k => XS.ifNo X92.here hx rfl (hb hby at_24) rfl ((if0 _ _).trans (teq rfl).2) k)
  show own_Go p e below PO (T92.setTop (mkF m 27 #[.val (.int pA), .val (.ref aB), .val (.int (16384 : Int32)), .unset, .unset] []))
  refine own_back ?_ (fun t k => XS.aloadN X92.here hx rfl (hb hby at_27) rfl rfl k)
  show own_Go p e below PO (T92.setTop (mkF m 28 #[.val (.int pA), .val (.ref aB), .val (.int (16384 : Int32)), .unset, .unset] [(.ref aB)]))
  obtain ⟨cq93, kq93, q93a, q93b, q93c⟩ := isOf hZ e92 EB1
  obtain ⟨_, _, ⟨T93, L93, k93, n93⟩, -, X93, ⟨Lc93, hQ93, l93, y93, z93⟩, st93⟩ := X92.virtualBack hx (y := (⟨"com/example/execd/execd/io/BodyReader", "nextRoom", "()I"⟩ : MethodName)) (z := (⟨"com/example/execd/execd/io/BodyReader", "nextRoom", "()I"⟩ : MethodName)) hown (mvT hZ (hw _ (List.mem_of_getElem? (i := 31) rfl))) (mvT hZ (hw _ (List.mem_of_getElem? (i := 32) rfl))) (notFace_of_selects (args := #[]) (mvT hZ (hw _ (List.mem_of_getElem? (i := 34) rfl)))) (mvT hZ (hw _ (List.mem_of_getElem? (i := 34) rfl))) (mvT hZ (hw _ (List.mem_of_getElem? (i := 33) rfl))) (by decide) (backOf (W := 0) (rmNext l Z a0 hw [] aB aD (0 : Int32) pA T1.heap n0 Zh1 FD1 FL1 FN1 EB1 LD1 neBD) hZ (hw _ (List.mem_of_getElem? (i := 35) rfl)) (hw _ (List.mem_of_getElem? (i := 2) rfl)) (by decide) (by decide)) q93a q93c (g := (mkF m 28 #[.val (.int pA), .val (.ref aB), .val (.int (16384 : Int32)), .unset, .unset] [(.ref aB)])) rfl (by rw [hml]; rfl) (Steps.refl _) (argsL := []) (rest := []) (lenOf pd_3 rfl) rfl (by show 2 * 0 + _ ≤ _; exact Nat.le_of_eq rfl) (hb hby at_28) (fun _ _ => ⟨rfl, e92, (by decide : 2 + 0 ≤ _), (by decide : 9 + 0 ≤ _)⟩)
  dsimp only [Pt.U, Pt.locs, Pt.cells, Pt.slots] at X93 l93 y93 z93 st93 hQ93
  subst l93 y93 z93
  obtain ⟨rfl, N93q, e93⟩ := hQ93
  have N93 := Fr.app N92 N93q
  refine own_back ?_ (fun t k => st93.trans k)
  show own_Go p e below PO (T93.setTop (mkF m 31 #[.val (.int pA), .val (.ref aB), .val (.int (16384 : Int32)), .unset, .unset] [(.int (own_next (0 : Int32) pA))]))
  refine own_back ?_ (fun t k => XS.iloadN X93.here hx rfl (hb hby at_31) rfl k)
  show own_Go p e below PO (T93.setTop (mkF m 32 #[.val (.int pA), .val (.ref aB), .val (.int (16384 : Int32)), .unset, .unset] [(.int (16384 : Int32)), (.int (own_next (0 : Int32) pA))]))
  have hd32_94 : (own_next (0 : Int32) pA) = (16384 : Int32) := own_e1' hc9_2
  refine own_back ?_ (fun t k => XS.icmpNo X93.here hx rfl (hb hby at_32) rfl (teq hd32_94).2 k)
  show own_Go p e below PO (T93.setTop (mkF m 35 #[.val (.int pA), .val (.ref aB), .val (.int (16384 : Int32)), .unset, .unset] []))
  refine own_back ?_ (fun t k => XS.aloadN X93.here hx rfl (hb hby at_35) rfl rfl k)
  show own_Go p e below PO (T93.setTop (mkF m 36 #[.val (.int pA), .val (.ref aB), .val (.int (16384 : Int32)), .unset, .unset] [(.ref aB)]))
  obtain ⟨cq95, kq95, q95a, q95b, q95c⟩ := isOf hZ e93 EB1
  obtain ⟨_, _, ⟨T95, L95, k95, n95⟩, -, X95, ⟨Lc95, hQ95, l95, y95, z95⟩, st95⟩ := X93.virtualBack hx (y := (⟨"com/example/execd/execd/io/BodyReader", "body", "()[B"⟩ : MethodName)) (z := (⟨"com/example/execd/execd/io/BodyReader", "body", "()[B"⟩ : MethodName)) hown (mvT hZ (hw _ (List.mem_of_getElem? (i := 43) rfl))) (mvT hZ (hw _ (List.mem_of_getElem? (i := 44) rfl))) (notFace_of_selects (args := #[]) (mvT hZ (hw _ (List.mem_of_getElem? (i := 46) rfl)))) (mvT hZ (hw _ (List.mem_of_getElem? (i := 46) rfl))) (mvT hZ (hw _ (List.mem_of_getElem? (i := 45) rfl))) (by decide) (backOf (W := 0) (rmBody l Z a0 hw [] aB aD (0 : Int32) pA T1.heap n0 Zh1 FD1 FL1 FN1 EB1 LD1 neBD) hZ (hw _ (List.mem_of_getElem? (i := 47) rfl)) (hw _ (List.mem_of_getElem? (i := 2) rfl)) (by decide) (by decide)) q95a q95c (g := (mkF m 36 #[.val (.int pA), .val (.ref aB), .val (.int (16384 : Int32)), .unset, .unset] [(.ref aB)])) rfl (by rw [hml]; rfl) (Steps.refl _) (argsL := []) (rest := []) (lenOf pd_5 rfl) rfl (by show 2 * 0 + _ ≤ _; exact Nat.le_of_eq rfl) (hb hby at_36) (fun _ _ => ⟨rfl, e93, (by decide : 2 + 1 ≤ _), (by decide : 9 + 0 ≤ _)⟩)
  dsimp only [Pt.U, Pt.locs, Pt.cells, Pt.slots] at X95 l95 y95 z95 st95 hQ95
  subst l95 y95 z95
  obtain ⟨aR95, rfl, N95q, Kc95, LR95⟩ := hQ95
  have N95 := Fr.app N93 N95q
  obtain ⟨ER95, kR95, vsR95, dR95, VR95⟩ := LR95
  have f95_96 := EB1.keep Kc95
  have f95_97 := FD1.keep Kc95 nin0
  have f95_98 := FL1.keep Kc95 nin0
  have f95_99 := FN1.keep Kc95 nin0
  have f95_100 := LD1.keep Kc95 nin0
  have f95_101 := LD1.1.keep Kc95
  have K95 : Keep h0 T95.heap [] := (K1).trans Kc95 all0
  have Zh95 : n0 ≤ T95.heap.size := Nat.le_trans Z0 K95.1
  refine own_back ?_ (fun t k => st95.trans k)
  show own_Go p e below PO (T95.setTop (mkF m 39 #[.val (.int pA), .val (.ref aB), .val (.int (16384 : Int32)), .unset, .unset] [(.ref aR95)]))
  refine own_back ?_ (own_len X95 hx hZ rfl VR95 (g := (mkF m 39 #[.val (.int pA), .val (.ref aB), .val (.int (16384 : Int32)), .unset, .unset] [(.ref aR95)])) rfl rfl (hb hby at_39))
  show own_Go p e below PO (T95.setTop (mkF m 40 #[.val (.int pA), .val (.ref aB), .val (.int (16384 : Int32)), .unset, .unset] [(.int (0 : Int32))]))
  refine own_back ?_ (fun t k => XS.ifNo X95.here hx rfl (hb hby at_40) rfl ((if0 _ _).trans (teq rfl).2) k)
  show own_Go p e below PO (T95.setTop (mkF m 43 #[.val (.int pA), .val (.ref aB), .val (.int (16384 : Int32)), .unset, .unset] []))
  refine own_back ?_ (fun t k => XS.iconst X95.here hx rfl (hb hby at_43) k)
  show own_Go p e below PO (T95.setTop (mkF m 44 #[.val (.int pA), .val (.ref aB), .val (.int (16384 : Int32)), .unset, .unset] [(.int (1 : Int32))]))
  refine own_back ?_ (fun t k => XS.goto X95.here hx rfl (pc0 := 44) (pc' := 48) rfl (hb hby at_44) (by decide) (by decide) k)
  show own_Go p e below PO (T95.setTop (mkF m 48 #[.val (.int pA), .val (.ref aB), .val (.int (16384 : Int32)), .unset, .unset] [(.int (1 : Int32))]))
  refine own_back ?_ (fun t k => XS.istoreN X95.here hx rfl (hb hby at_48) rfl (l' := #[.val (.int pA), .val (.ref aB), .val (.int (16384 : Int32)), .val (.int (1 : Int32)), .unset]) rfl k)
  show own_Go p e below PO (T95.setTop (mkF m 49 #[.val (.int pA), .val (.ref aB), .val (.int (16384 : Int32)), .val (.int (1 : Int32)), .unset] []))
  refine own_back ?_ (fun t k => XS.iloadN X95.here hx rfl (hb hby at_49) rfl k)
  show own_Go p e below PO (T95.setTop (mkF m 50 #[.val (.int pA), .val (.ref aB), .val (.int (16384 : Int32)), .val (.int (1 : Int32)), .unset] [(.int pA)]))
  by_cases hc50_102 : pA < (0 : Int32)
  case pos =>
    refine own_back ?_ (fun t k => XS.ifNo X95.here hx rfl (hb hby at_50) rfl ((if0 _ _).trans (tlt hc50_102).2.1) k)
    show own_Go p e below PO (T95.setTop (mkF m 53 #[.val (.int pA), .val (.ref aB), .val (.int (16384 : Int32)), .val (.int (1 : Int32)), .unset] []))
    refine own_back ?_ (fun t k => XS.iloadN X95.here hx rfl (hb hby at_53) rfl k)
    show own_Go p e below PO (T95.setTop (mkF m 54 #[.val (.int pA), .val (.ref aB), .val (.int (16384 : Int32)), .val (.int (1 : Int32)), .unset] [(.int (1 : Int32))]))
    refine own_retN X95 hx (t := .boolean) (rest := []) Bd.returns (by decide) (by simp) (hb hby at_54) rfl (Bd.notSynchronized) ?_ (by decide) (by decide)
    exact ⟨rfl, N95⟩
  refine own_back ?_ (fun t k => XS.ifYes X95.here hx rfl (pc0 := 50) (pc' := 55) rfl (hb hby at_50) rfl ((if0 _ _).trans (flt hc50_102).2.1) (by decide) (by decide) k)
  show own_Go p e below PO (T95.setTop (mkF m 55 #[.val (.int pA), .val (.ref aB), .val (.int (16384 : Int32)), .val (.int (1 : Int32)), .unset] []))
  refine own_back ?_ (fun t k => XS.aloadN X95.here hx rfl (hb hby at_55) rfl rfl k)
  show own_Go p e below PO (T95.setTop (mkF m 56 #[.val (.int pA), .val (.ref aB), .val (.int (16384 : Int32)), .val (.int (1 : Int32)), .unset] [(.ref aB)]))
  obtain ⟨cq103, kq103, q103a, q103b, q103c⟩ := isOf hZ rfl f95_96
  obtain ⟨_, _, ⟨T103, L103, k103, n103⟩, -, X103, ⟨Lc103, hQ103, l103, y103, z103⟩, st103⟩ := X95.virtualBack hx (y := (⟨"com/example/execd/execd/io/BodyReader", "grow", "()V"⟩ : MethodName)) (z := (⟨"com/example/execd/execd/io/BodyReader", "grow", "()V"⟩ : MethodName)) hown (mvT hZ (hw _ (List.mem_of_getElem? (i := 50) rfl))) (mvT hZ (hw _ (List.mem_of_getElem? (i := 51) rfl))) (notFace_of_selects (args := #[]) (mvT hZ (hw _ (List.mem_of_getElem? (i := 53) rfl)))) (mvT hZ (hw _ (List.mem_of_getElem? (i := 53) rfl))) (mvT hZ (hw _ (List.mem_of_getElem? (i := 52) rfl))) (by decide) (backOf (W := 0) (rmGrow_16384 l Z a0 hw [] aB aD (0 : Int32) pA T95.heap n0 Zh95 f95_97 f95_98 f95_99 f95_96 f95_100 neBD (own_n1b (own_ge hc50_102)) gn_aB) hZ (hw _ (List.mem_of_getElem? (i := 54) rfl)) (hw _ (List.mem_of_getElem? (i := 2) rfl)) (by decide) (by decide)) q103a q103c (g := (mkF m 56 #[.val (.int pA), .val (.ref aB), .val (.int (16384 : Int32)), .val (.int (1 : Int32)), .unset] [(.ref aB)])) rfl (by rw [hml]; rfl) (Steps.refl _) (argsL := []) (rest := []) (lenOf pd_6 rfl) rfl (by show 2 * 0 + _ ≤ _; exact Nat.le_of_eq rfl) (hb hby at_56) (fun _ _ => ⟨rfl, rfl, (by decide : 3 + 1 ≤ _), (by decide : 9 + 16384 ≤ _)⟩)
  dsimp only [Pt.U, Pt.locs, Pt.cells, Pt.slots] at X103 l103 y103 z103 st103 hQ103
  subst l103 y103 z103
  obtain ⟨rfl, N103q, Kc103, aD103, sz103, FD103, FL103, FN103, LD103⟩ := hQ103
  have N103 := Fr.app N95 N103q
  have ne_aB_aD103 : aB ≠ aD103 := Nat.ne_of_lt (Nat.lt_of_lt_of_le f95_96.lt sz103)
  have ne_aD_aD103 : aD ≠ aD103 := Nat.ne_of_lt (Nat.lt_of_lt_of_le f95_101.lt sz103)
  have sz_aD103 : h0.size ≤ aD103 := Nat.le_trans K95.1 sz103
  have gn_aD103 : n0 ≤ aD103 := Nat.le_trans Z0 sz_aD103
  have f103_104 := f95_96.keep Kc103
  have f103_105 := f95_100.keep Kc103 (ninS (Ne.symm neBD) nin0)
  have f103_106 := f95_101.keep Kc103
  have K103 : Keep h0 T103.heap [] := (K95).trans Kc103 (allS (Or.inr sz_aB) all0)
  have Zh103 : n0 ≤ T103.heap.size := Nat.le_trans Z0 K103.1
  refine own_back ?_ (fun t k => st103.trans k)
  show own_Go p e below PO (T103.setTop (mkF m 59 #[.val (.int pA), .val (.ref aB), .val (.int (16384 : Int32)), .val (.int (1 : Int32)), .unset] []))
  refine own_back ?_ (fun t k => XS.iloadN X103.here hx rfl (hb hby at_59) rfl k)
  show own_Go p e below PO (T103.setTop (mkF m 60 #[.val (.int pA), .val (.ref aB), .val (.int (16384 : Int32)), .val (.int (1 : Int32)), .unset] [(.int (1 : Int32))]))
  have hd60_107 : ¬ ((1 : Int32) = (0 : Int32)) := (by decide)
  refine own_back ?_ (fun t k => XS.ifNo X103.here hx rfl (hb hby at_60) rfl ((if0 _ _).trans (feq hd60_107).1) k)
  show own_Go p e below PO (T103.setTop (mkF m 63 #[.val (.int pA), .val (.ref aB), .val (.int (16384 : Int32)), .val (.int (1 : Int32)), .unset] []))
  refine own_back ?_ (fun t k => XS.aloadN X103.here hx rfl (hb hby at_63) rfl rfl k)
  show own_Go p e below PO (T103.setTop (mkF m 64 #[.val (.int pA), .val (.ref aB), .val (.int (16384 : Int32)), .val (.int (1 : Int32)), .unset] [(.ref aB)]))
  obtain ⟨cq108, kq108, q108a, q108b, q108c⟩ := isOf hZ rfl f103_104
  obtain ⟨_, _, ⟨T108, L108, k108, n108⟩, -, X108, ⟨Lc108, hQ108, l108, y108, z108⟩, st108⟩ := X103.virtualBack hx (y := (⟨"com/example/execd/execd/io/BodyReader", "room", "()I"⟩ : MethodName)) (z := (⟨"com/example/execd/execd/io/BodyReader", "room", "()I"⟩ : MethodName)) hown (mvT hZ (hw _ (List.mem_of_getElem? (i := 26) rfl))) (mvT hZ (hw _ (List.mem_of_getElem? (i := 27) rfl))) (notFace_of_selects (args := #[]) (mvT hZ (hw _ (List.mem_of_getElem? (i := 29) rfl)))) (mvT hZ (hw _ (List.mem_of_getElem? (i := 29) rfl))) (mvT hZ (hw _ (List.mem_of_getElem? (i := 28) rfl))) (by decide) (backOf (W := 0) (rmRoom l Z a0 hw [] aB aD103 (own_next (0 : Int32) pA) pA T103.heap n0 Zh103 FD103 FL103 FN103 f103_104 LD103 ne_aB_aD103) hZ (hw _ (List.mem_of_getElem? (i := 30) rfl)) (hw _ (List.mem_of_getElem? (i := 2) rfl)) (by decide) (by decide)) q108a q108c (g := (mkF m 64 #[.val (.int pA), .val (.ref aB), .val (.int (16384 : Int32)), .val (.int (1 : Int32)), .unset] [(.ref aB)])) rfl (by rw [hml]; rfl) (Steps.refl _) (argsL := []) (rest := []) (lenOf pd_3 rfl) rfl (by show 2 * 0 + _ ≤ _; exact Nat.le_of_eq rfl) (hb hby at_64) (fun _ _ => ⟨rfl, rfl, (by decide : 4 + 0 ≤ _), (by decide : 16393 + 0 ≤ _)⟩)
  dsimp only [Pt.U, Pt.locs, Pt.cells, Pt.slots] at X108 l108 y108 z108 st108 hQ108
  subst l108 y108 z108
  obtain ⟨rfl, N108q, e108⟩ := hQ108
  have N108 := Fr.app N103 N108q
  refine own_back ?_ (fun t k => st108.trans k)
  show own_Go p e below PO (T108.setTop (mkF m 67 #[.val (.int pA), .val (.ref aB), .val (.int (16384 : Int32)), .val (.int (1 : Int32)), .unset] [(.int (own_next (0 : Int32) pA))]))
  refine own_back ?_ (fun t k => XS.iloadN X108.here hx rfl (hb hby at_67) rfl k)
  show own_Go p e below PO (T108.setTop (mkF m 68 #[.val (.int pA), .val (.ref aB), .val (.int (16384 : Int32)), .val (.int (1 : Int32)), .unset] [(.int (16384 : Int32)), (.int (own_next (0 : Int32) pA))]))
  have hd68_109 : (own_next (0 : Int32) pA) = (16384 : Int32) := own_e1' hc9_2
  refine own_back ?_ (fun t k => XS.icmpNo X108.here hx rfl (hb hby at_68) rfl (teq hd68_109).2 k)
  show own_Go p e below PO (T108.setTop (mkF m 71 #[.val (.int pA), .val (.ref aB), .val (.int (16384 : Int32)), .val (.int (1 : Int32)), .unset] []))
  refine own_back ?_ (fun t k => XS.iconst X108.here hx rfl (hb hby at_71) k)
  show own_Go p e below PO (T108.setTop (mkF m 72 #[.val (.int pA), .val (.ref aB), .val (.int (16384 : Int32)), .val (.int (1 : Int32)), .unset] [(.int (1 : Int32))]))
  refine own_back ?_ (fun t k => XS.goto X108.here hx rfl (pc0 := 72) (pc' := 76) rfl (hb hby at_72) (by decide) (by decide) k)
  show own_Go p e below PO (T108.setTop (mkF m 76 #[.val (.int pA), .val (.ref aB), .val (.int (16384 : Int32)), .val (.int (1 : Int32)), .unset] [(.int (1 : Int32))]))
  refine own_back ?_ (fun t k => XS.istoreN X108.here hx rfl (hb hby at_76) rfl (l' := #[.val (.int pA), .val (.ref aB), .val (.int (16384 : Int32)), .val (.int (1 : Int32)), .unset]) rfl k)
  show own_Go p e below PO (T108.setTop (mkF m 77 #[.val (.int pA), .val (.ref aB), .val (.int (16384 : Int32)), .val (.int (1 : Int32)), .unset] []))
  refine own_back ?_ (fun t k => XS.iloadN X108.here hx rfl (hb hby at_77) rfl k)
  show own_Go p e below PO (T108.setTop (mkF m 78 #[.val (.int pA), .val (.ref aB), .val (.int (16384 : Int32)), .val (.int (1 : Int32)), .unset] [(.int pA)]))
  refine own_back ?_ (fun t k => XS.sipush X108.here hx rfl (hb hby at_78) k)
  show own_Go p e below PO (T108.setTop (mkF m 81 #[.val (.int pA), .val (.ref aB), .val (.int (16384 : Int32)), .val (.int (1 : Int32)), .unset] [(.int (16384 : Int32)), (.int pA)]))
  by_cases hc81_110 : (16384 : Int32) < pA
  case pos =>
    refine own_back ?_ (fun t k => XS.icmpYes X108.here hx rfl (pc0 := 81) (pc' := 90) rfl (hb hby at_81) rfl (tlt hc81_110).2.2.1 (by decide) (by decide) k)
    show own_Go p e below PO (T108.setTop (mkF m 90 #[.val (.int pA), .val (.ref aB), .val (.int (16384 : Int32)), .val (.int (1 : Int32)), .unset] []))
    refine own_back ?_ (fun t k => XS.iloadN X108.here hx rfl (hb hby at_90) rfl k)
    show own_Go p e below PO (T108.setTop (mkF m 91 #[.val (.int pA), .val (.ref aB), .val (.int (16384 : Int32)), .val (.int (1 : Int32)), .unset] [(.int pA)]))
    refine own_back ?_ (fun t k => X108.ldcInt hx hown (mvT hZ (hw _ (List.mem_of_getElem? (i := 74) rfl))) (g := (mkF m 91 #[.val (.int pA), .val (.ref aB), .val (.int (16384 : Int32)), .val (.int (1 : Int32)), .unset] [(.int pA)])) rfl (hb hby at_91) _ k)
    show own_Go p e below PO (T108.setTop (mkF m 93 #[.val (.int pA), .val (.ref aB), .val (.int (16384 : Int32)), .val (.int (1 : Int32)), .unset] [(.int (32768 : Int32)), (.int pA)]))
    by_cases hc93_111 : pA < (32768 : Int32)
    case pos =>
      refine own_back ?_ (fun t k => XS.icmpNo X108.here hx rfl (hb hby at_93) rfl (tlt hc93_111).2.1 k)
      show own_Go p e below PO (T108.setTop (mkF m 96 #[.val (.int pA), .val (.ref aB), .val (.int (16384 : Int32)), .val (.int (1 : Int32)), .unset] []))
      refine own_back ?_ (fun t k => XS.iloadN X108.here hx rfl (hb hby at_96) rfl k)
      show own_Go p e below PO (T108.setTop (mkF m 97 #[.val (.int pA), .val (.ref aB), .val (.int (16384 : Int32)), .val (.int (1 : Int32)), .unset] [(.int pA)]))
      refine own_back ?_ (fun t k => XS.istore X108.here hx rfl (hb hby at_97) rfl (l' := #[.val (.int pA), .val (.ref aB), .val (.int (16384 : Int32)), .val (.int (1 : Int32)), .val (.int pA)]) rfl k)
      show own_Go p e below PO (T108.setTop (mkF m 99 #[.val (.int pA), .val (.ref aB), .val (.int (16384 : Int32)), .val (.int (1 : Int32)), .val (.int pA)] []))
      refine own_back ?_ (fun t k => XS.goto X108.here hx rfl (pc0 := 99) (pc' := 106) rfl (hb hby at_99) (by decide) (by decide) k)
      show own_Go p e below PO (T108.setTop (mkF m 106 #[.val (.int pA), .val (.ref aB), .val (.int (16384 : Int32)), .val (.int (1 : Int32)), .val (.int pA)] []))
      refine own_back ?_ (fun t k => XS.iloadN X108.here hx rfl (hb hby at_106) rfl k)
      show own_Go p e below PO (T108.setTop (mkF m 107 #[.val (.int pA), .val (.ref aB), .val (.int (16384 : Int32)), .val (.int (1 : Int32)), .val (.int pA)] [(.int (1 : Int32))]))
      have hd107_112 : ¬ ((1 : Int32) = (0 : Int32)) := (by decide)
      refine own_back ?_ (fun t k => XS.ifNo X108.here hx rfl (hb hby at_107) rfl ((if0 _ _).trans (feq hd107_112).1) k)
      show own_Go p e below PO (T108.setTop (mkF m 110 #[.val (.int pA), .val (.ref aB), .val (.int (16384 : Int32)), .val (.int (1 : Int32)), .val (.int pA)] []))
      refine own_back ?_ (fun t k => XS.aloadN X108.here hx rfl (hb hby at_110) rfl rfl k)
      show own_Go p e below PO (T108.setTop (mkF m 111 #[.val (.int pA), .val (.ref aB), .val (.int (16384 : Int32)), .val (.int (1 : Int32)), .val (.int pA)] [(.ref aB)]))
      obtain ⟨cq113, kq113, q113a, q113b, q113c⟩ := isOf hZ e108 f103_104
      obtain ⟨_, _, ⟨T113, L113, k113, n113⟩, -, X113, ⟨Lc113, hQ113, l113, y113, z113⟩, st113⟩ := X108.virtualBack hx (y := (⟨"com/example/execd/execd/io/BodyReader", "nextRoom", "()I"⟩ : MethodName)) (z := (⟨"com/example/execd/execd/io/BodyReader", "nextRoom", "()I"⟩ : MethodName)) hown (mvT hZ (hw _ (List.mem_of_getElem? (i := 31) rfl))) (mvT hZ (hw _ (List.mem_of_getElem? (i := 32) rfl))) (notFace_of_selects (args := #[]) (mvT hZ (hw _ (List.mem_of_getElem? (i := 34) rfl)))) (mvT hZ (hw _ (List.mem_of_getElem? (i := 34) rfl))) (mvT hZ (hw _ (List.mem_of_getElem? (i := 33) rfl))) (by decide) (backOf (W := 0) (rmNext l Z a0 hw [] aB aD103 (own_next (0 : Int32) pA) pA T103.heap n0 Zh103 FD103 FL103 FN103 f103_104 LD103 ne_aB_aD103) hZ (hw _ (List.mem_of_getElem? (i := 35) rfl)) (hw _ (List.mem_of_getElem? (i := 2) rfl)) (by decide) (by decide)) q113a q113c (g := (mkF m 111 #[.val (.int pA), .val (.ref aB), .val (.int (16384 : Int32)), .val (.int (1 : Int32)), .val (.int pA)] [(.ref aB)])) rfl (by rw [hml]; rfl) (Steps.refl _) (argsL := []) (rest := []) (lenOf pd_3 rfl) rfl (by show 2 * 0 + _ ≤ _; exact Nat.le_of_eq rfl) (hb hby at_111) (fun _ _ => ⟨rfl, e108, (by decide : 4 + 0 ≤ _), (by decide : 16393 + 0 ≤ _)⟩)
      dsimp only [Pt.U, Pt.locs, Pt.cells, Pt.slots] at X113 l113 y113 z113 st113 hQ113
      subst l113 y113 z113
      obtain ⟨rfl, N113q, e113⟩ := hQ113
      have N113 := Fr.app N108 N113q
      refine own_back ?_ (fun t k => st113.trans k)
      show own_Go p e below PO (T113.setTop (mkF m 114 #[.val (.int pA), .val (.ref aB), .val (.int (16384 : Int32)), .val (.int (1 : Int32)), .val (.int pA)] [(.int (own_next (own_next (0 : Int32) pA) pA))]))
      refine own_back ?_ (fun t k => XS.iload X113.here hx rfl (hb hby at_114) rfl k)
      show own_Go p e below PO (T113.setTop (mkF m 116 #[.val (.int pA), .val (.ref aB), .val (.int (16384 : Int32)), .val (.int (1 : Int32)), .val (.int pA)] [(.int pA), (.int (own_next (own_next (0 : Int32) pA) pA))]))
      have hd116_114 : (own_next (own_next (0 : Int32) pA) pA) = pA := own_e2b hc50_102 hc93_111
      refine own_back ?_ (fun t k => XS.icmpNo X113.here hx rfl (hb hby at_116) rfl (teq hd116_114).2 k)
      show own_Go p e below PO (T113.setTop (mkF m 119 #[.val (.int pA), .val (.ref aB), .val (.int (16384 : Int32)), .val (.int (1 : Int32)), .val (.int pA)] []))
      refine own_back ?_ (fun t k => XS.iconst X113.here hx rfl (hb hby at_119) k)
      show own_Go p e below PO (T113.setTop (mkF m 120 #[.val (.int pA), .val (.ref aB), .val (.int (16384 : Int32)), .val (.int (1 : Int32)), .val (.int pA)] [(.int (1 : Int32))]))
      refine own_back ?_ (fun t k => XS.goto X113.here hx rfl (pc0 := 120) (pc' := 124) rfl (hb hby at_120) (by decide) (by decide) k)
      show own_Go p e below PO (T113.setTop (mkF m 124 #[.val (.int pA), .val (.ref aB), .val (.int (16384 : Int32)), .val (.int (1 : Int32)), .val (.int pA)] [(.int (1 : Int32))]))
      refine own_back ?_ (fun t k => XS.istoreN X113.here hx rfl (hb hby at_124) rfl (l' := #[.val (.int pA), .val (.ref aB), .val (.int (16384 : Int32)), .val (.int (1 : Int32)), .val (.int pA)]) rfl k)
      show own_Go p e below PO (T113.setTop (mkF m 125 #[.val (.int pA), .val (.ref aB), .val (.int (16384 : Int32)), .val (.int (1 : Int32)), .val (.int pA)] []))
      refine own_back ?_ (fun t k => XS.aloadN X113.here hx rfl (hb hby at_125) rfl rfl k)
      show own_Go p e below PO (T113.setTop (mkF m 126 #[.val (.int pA), .val (.ref aB), .val (.int (16384 : Int32)), .val (.int (1 : Int32)), .val (.int pA)] [(.ref aB)]))
      obtain ⟨cq115, kq115, q115a, q115b, q115c⟩ := isOf hZ e113 f103_104
      obtain ⟨_, _, ⟨T115, L115, k115, n115⟩, -, X115, ⟨Lc115, hQ115, l115, y115, z115⟩, st115⟩ := X113.virtualBack hx (y := (⟨"com/example/execd/execd/io/BodyReader", "grow", "()V"⟩ : MethodName)) (z := (⟨"com/example/execd/execd/io/BodyReader", "grow", "()V"⟩ : MethodName)) hown (mvT hZ (hw _ (List.mem_of_getElem? (i := 50) rfl))) (mvT hZ (hw _ (List.mem_of_getElem? (i := 51) rfl))) (notFace_of_selects (args := #[]) (mvT hZ (hw _ (List.mem_of_getElem? (i := 53) rfl)))) (mvT hZ (hw _ (List.mem_of_getElem? (i := 53) rfl))) (mvT hZ (hw _ (List.mem_of_getElem? (i := 52) rfl))) (by decide) (backOf (W := 0) (rmGrow_32768 l Z a0 hw [] aB aD103 (own_next (0 : Int32) pA) pA T103.heap n0 Zh103 FD103 FL103 FN103 f103_104 LD103 ne_aB_aD103 (own_n2b (own_ge hc50_102)) gn_aB) hZ (hw _ (List.mem_of_getElem? (i := 54) rfl)) (hw _ (List.mem_of_getElem? (i := 2) rfl)) (by decide) (by decide)) q115a q115c (g := (mkF m 126 #[.val (.int pA), .val (.ref aB), .val (.int (16384 : Int32)), .val (.int (1 : Int32)), .val (.int pA)] [(.ref aB)])) rfl (by rw [hml]; rfl) (Steps.refl _) (argsL := []) (rest := []) (lenOf pd_6 rfl) rfl (by show 2 * 0 + _ ≤ _; exact Nat.le_of_eq rfl) (hb hby at_126) (fun _ _ => ⟨rfl, e113, (by decide : 4 + 1 ≤ _), (by decide : 16393 + 32768 ≤ _)⟩)
      dsimp only [Pt.U, Pt.locs, Pt.cells, Pt.slots] at X115 l115 y115 z115 st115 hQ115
      subst l115 y115 z115
      obtain ⟨rfl, N115q, Kc115, aD115, sz115, FD115, FL115, FN115, LD115⟩ := hQ115
      have N115 := Fr.app N113 N115q
      have ne_aB_aD115 : aB ≠ aD115 := Nat.ne_of_lt (Nat.lt_of_lt_of_le f103_104.lt sz115)
      have ne_aD_aD115 : aD ≠ aD115 := Nat.ne_of_lt (Nat.lt_of_lt_of_le f103_106.lt sz115)
      have ne_aD103_aD115 : aD103 ≠ aD115 := Nat.ne_of_lt (Nat.lt_of_lt_of_le LD103.1.lt sz115)
      have sz_aD115 : h0.size ≤ aD115 := Nat.le_trans K103.1 sz115
      have gn_aD115 : n0 ≤ aD115 := Nat.le_trans Z0 sz_aD115
      have f115_116 := f103_104.keep Kc115
      have f115_117 := f103_105.keep Kc115 (ninS (Ne.symm neBD) nin0)
      have f115_118 := f103_106.keep Kc115
      have f115_119 := LD103.keep Kc115 (ninS (Ne.symm ne_aB_aD103) nin0)
      have f115_120 := LD103.1.keep Kc115
      have K115 : Keep h0 T115.heap [] := (K103).trans Kc115 (allS (Or.inr sz_aB) all0)
      have Zh115 : n0 ≤ T115.heap.size := Nat.le_trans Z0 K115.1
      refine own_back ?_ (fun t k => st115.trans k)
      show own_Go p e below PO (T115.setTop (mkF m 129 #[.val (.int pA), .val (.ref aB), .val (.int (16384 : Int32)), .val (.int (1 : Int32)), .val (.int pA)] []))
      refine own_back ?_ (fun t k => XS.iloadN X115.here hx rfl (hb hby at_129) rfl k)
      show own_Go p e below PO (T115.setTop (mkF m 130 #[.val (.int pA), .val (.ref aB), .val (.int (16384 : Int32)), .val (.int (1 : Int32)), .val (.int pA)] [(.int (1 : Int32))]))
      have hd130_121 : ¬ ((1 : Int32) = (0 : Int32)) := (by decide)
      refine own_back ?_ (fun t k => XS.ifNo X115.here hx rfl (hb hby at_130) rfl ((if0 _ _).trans (feq hd130_121).1) k)
      show own_Go p e below PO (T115.setTop (mkF m 133 #[.val (.int pA), .val (.ref aB), .val (.int (16384 : Int32)), .val (.int (1 : Int32)), .val (.int pA)] []))
      refine own_back ?_ (fun t k => XS.aloadN X115.here hx rfl (hb hby at_133) rfl rfl k)
      show own_Go p e below PO (T115.setTop (mkF m 134 #[.val (.int pA), .val (.ref aB), .val (.int (16384 : Int32)), .val (.int (1 : Int32)), .val (.int pA)] [(.ref aB)]))
      obtain ⟨cq122, kq122, q122a, q122b, q122c⟩ := isOf hZ rfl f115_116
      obtain ⟨_, _, ⟨T122, L122, k122, n122⟩, -, X122, ⟨Lc122, hQ122, l122, y122, z122⟩, st122⟩ := X115.virtualBack hx (y := (⟨"com/example/execd/execd/io/BodyReader", "room", "()I"⟩ : MethodName)) (z := (⟨"com/example/execd/execd/io/BodyReader", "room", "()I"⟩ : MethodName)) hown (mvT hZ (hw _ (List.mem_of_getElem? (i := 26) rfl))) (mvT hZ (hw _ (List.mem_of_getElem? (i := 27) rfl))) (notFace_of_selects (args := #[]) (mvT hZ (hw _ (List.mem_of_getElem? (i := 29) rfl)))) (mvT hZ (hw _ (List.mem_of_getElem? (i := 29) rfl))) (mvT hZ (hw _ (List.mem_of_getElem? (i := 28) rfl))) (by decide) (backOf (W := 0) (rmRoom l Z a0 hw [] aB aD115 (own_next (own_next (0 : Int32) pA) pA) pA T115.heap n0 Zh115 FD115 FL115 FN115 f115_116 LD115 ne_aB_aD115) hZ (hw _ (List.mem_of_getElem? (i := 30) rfl)) (hw _ (List.mem_of_getElem? (i := 2) rfl)) (by decide) (by decide)) q122a q122c (g := (mkF m 134 #[.val (.int pA), .val (.ref aB), .val (.int (16384 : Int32)), .val (.int (1 : Int32)), .val (.int pA)] [(.ref aB)])) rfl (by rw [hml]; rfl) (Steps.refl _) (argsL := []) (rest := []) (lenOf pd_3 rfl) rfl (by show 2 * 0 + _ ≤ _; exact Nat.le_of_eq rfl) (hb hby at_134) (fun _ _ => ⟨rfl, rfl, (by decide : 5 + 0 ≤ _), (by decide : 49161 + 0 ≤ _)⟩)
      dsimp only [Pt.U, Pt.locs, Pt.cells, Pt.slots] at X122 l122 y122 z122 st122 hQ122
      subst l122 y122 z122
      obtain ⟨rfl, N122q, e122⟩ := hQ122
      have N122 := Fr.app N115 N122q
      refine own_back ?_ (fun t k => st122.trans k)
      show own_Go p e below PO (T122.setTop (mkF m 137 #[.val (.int pA), .val (.ref aB), .val (.int (16384 : Int32)), .val (.int (1 : Int32)), .val (.int pA)] [(.int (own_next (own_next (0 : Int32) pA) pA))]))
      refine own_back ?_ (fun t k => XS.iload X122.here hx rfl (hb hby at_137) rfl k)
      show own_Go p e below PO (T122.setTop (mkF m 139 #[.val (.int pA), .val (.ref aB), .val (.int (16384 : Int32)), .val (.int (1 : Int32)), .val (.int pA)] [(.int pA), (.int (own_next (own_next (0 : Int32) pA) pA))]))
      have hd139_123 : (own_next (own_next (0 : Int32) pA) pA) = pA := own_e2b hc50_102 hc93_111
      refine own_back ?_ (fun t k => XS.icmpNo X122.here hx rfl (hb hby at_139) rfl (teq hd139_123).2 k)
      show own_Go p e below PO (T122.setTop (mkF m 142 #[.val (.int pA), .val (.ref aB), .val (.int (16384 : Int32)), .val (.int (1 : Int32)), .val (.int pA)] []))
      refine own_back ?_ (fun t k => XS.aloadN X122.here hx rfl (hb hby at_142) rfl rfl k)
      show own_Go p e below PO (T122.setTop (mkF m 143 #[.val (.int pA), .val (.ref aB), .val (.int (16384 : Int32)), .val (.int (1 : Int32)), .val (.int pA)] [(.ref aB)]))
      obtain ⟨cq124, kq124, q124a, q124b, q124c⟩ := isOf hZ e122 f115_116
      obtain ⟨_, _, ⟨T124, L124, k124, n124⟩, -, X124, ⟨Lc124, hQ124, l124, y124, z124⟩, st124⟩ := X122.virtualBack hx (y := (⟨"com/example/execd/execd/io/BodyReader", "body", "()[B"⟩ : MethodName)) (z := (⟨"com/example/execd/execd/io/BodyReader", "body", "()[B"⟩ : MethodName)) hown (mvT hZ (hw _ (List.mem_of_getElem? (i := 43) rfl))) (mvT hZ (hw _ (List.mem_of_getElem? (i := 44) rfl))) (notFace_of_selects (args := #[]) (mvT hZ (hw _ (List.mem_of_getElem? (i := 46) rfl)))) (mvT hZ (hw _ (List.mem_of_getElem? (i := 46) rfl))) (mvT hZ (hw _ (List.mem_of_getElem? (i := 45) rfl))) (by decide) (backOf (W := 0) (rmBody l Z a0 hw [] aB aD115 (own_next (own_next (0 : Int32) pA) pA) pA T115.heap n0 Zh115 FD115 FL115 FN115 f115_116 LD115 ne_aB_aD115) hZ (hw _ (List.mem_of_getElem? (i := 47) rfl)) (hw _ (List.mem_of_getElem? (i := 2) rfl)) (by decide) (by decide)) q124a q124c (g := (mkF m 143 #[.val (.int pA), .val (.ref aB), .val (.int (16384 : Int32)), .val (.int (1 : Int32)), .val (.int pA)] [(.ref aB)])) rfl (by rw [hml]; rfl) (Steps.refl _) (argsL := []) (rest := []) (lenOf pd_5 rfl) rfl (by show 2 * 0 + _ ≤ _; exact Nat.le_of_eq rfl) (hb hby at_143) (fun _ _ => ⟨rfl, e122, (by decide : 5 + 1 ≤ _), (by decide : 49161 + 0 ≤ _)⟩)
      dsimp only [Pt.U, Pt.locs, Pt.cells, Pt.slots] at X124 l124 y124 z124 st124 hQ124
      subst l124 y124 z124
      obtain ⟨aR124, rfl, N124q, Kc124, LR124⟩ := hQ124
      have N124 := Fr.app N122 N124q
      obtain ⟨ER124, kR124, vsR124, dR124, VR124⟩ := LR124
      have f124_125 := f115_116.keep Kc124
      have f124_126 := FD115.keep Kc124 nin0
      have f124_127 := FL115.keep Kc124 nin0
      have f124_128 := FN115.keep Kc124 nin0
      have f124_129 := f115_117.keep Kc124 nin0
      have f124_130 := f115_118.keep Kc124
      have f124_131 := f115_119.keep Kc124 nin0
      have f124_132 := f115_120.keep Kc124
      have f124_133 := LD115.keep Kc124 nin0
      have f124_134 := LD115.1.keep Kc124
      have K124 : Keep h0 T124.heap [] := (K115).trans Kc124 all0
      have Zh124 : n0 ≤ T124.heap.size := Nat.le_trans Z0 K124.1
      refine own_back ?_ (fun t k => st124.trans k)
      show own_Go p e below PO (T124.setTop (mkF m 146 #[.val (.int pA), .val (.ref aB), .val (.int (16384 : Int32)), .val (.int (1 : Int32)), .val (.int pA)] [(.ref aR124)]))
      refine own_back ?_ (own_len X124 hx hZ rfl VR124 (g := (mkF m 146 #[.val (.int pA), .val (.ref aB), .val (.int (16384 : Int32)), .val (.int (1 : Int32)), .val (.int pA)] [(.ref aR124)])) rfl rfl (hb hby at_146))
      show own_Go p e below PO (T124.setTop (mkF m 147 #[.val (.int pA), .val (.ref aB), .val (.int (16384 : Int32)), .val (.int (1 : Int32)), .val (.int pA)] [(.int (0 : Int32))]))
      refine own_back ?_ (fun t k => XS.ifNo X124.here hx rfl (hb hby at_147) rfl ((if0 _ _).trans (teq rfl).2) k)
      show own_Go p e below PO (T124.setTop (mkF m 150 #[.val (.int pA), .val (.ref aB), .val (.int (16384 : Int32)), .val (.int (1 : Int32)), .val (.int pA)] []))
      refine own_back ?_ (fun t k => XS.iconst X124.here hx rfl (hb hby at_150) k)
      show own_Go p e below PO (T124.setTop (mkF m 151 #[.val (.int pA), .val (.ref aB), .val (.int (16384 : Int32)), .val (.int (1 : Int32)), .val (.int pA)] [(.int (1 : Int32))]))
      refine own_back ?_ (fun t k => XS.goto X124.here hx rfl (pc0 := 151) (pc' := 155) rfl (hb hby at_151) (by decide) (by decide) k)
      show own_Go p e below PO (T124.setTop (mkF m 155 #[.val (.int pA), .val (.ref aB), .val (.int (16384 : Int32)), .val (.int (1 : Int32)), .val (.int pA)] [(.int (1 : Int32))]))
      refine own_back ?_ (fun t k => XS.istoreN X124.here hx rfl (hb hby at_155) rfl (l' := #[.val (.int pA), .val (.ref aB), .val (.int (16384 : Int32)), .val (.int (1 : Int32)), .val (.int pA)]) rfl k)
      show own_Go p e below PO (T124.setTop (mkF m 156 #[.val (.int pA), .val (.ref aB), .val (.int (16384 : Int32)), .val (.int (1 : Int32)), .val (.int pA)] []))
      refine own_back ?_ (fun t k => XS.iloadN X124.here hx rfl (hb hby at_156) rfl k)
      show own_Go p e below PO (T124.setTop (mkF m 157 #[.val (.int pA), .val (.ref aB), .val (.int (16384 : Int32)), .val (.int (1 : Int32)), .val (.int pA)] [(.int (1 : Int32))]))
      refine own_retN X124 hx (t := .boolean) (rest := []) Bd.returns (by decide) (by simp) (hb hby at_157) rfl (Bd.notSynchronized) ?_ (by decide) (by decide)
      exact ⟨rfl, N124⟩
    refine own_back ?_ (fun t k => XS.icmpYes X108.here hx rfl (pc0 := 93) (pc' := 102) rfl (hb hby at_93) rfl (flt hc93_111).2.1 (by decide) (by decide) k)
    show own_Go p e below PO (T108.setTop (mkF m 102 #[.val (.int pA), .val (.ref aB), .val (.int (16384 : Int32)), .val (.int (1 : Int32)), .unset] []))
    refine own_back ?_ (fun t k => X108.ldcInt hx hown (mvT hZ (hw _ (List.mem_of_getElem? (i := 74) rfl))) (g := (mkF m 102 #[.val (.int pA), .val (.ref aB), .val (.int (16384 : Int32)), .val (.int (1 : Int32)), .unset] [])) rfl (hb hby at_102) _ k)
    show own_Go p e below PO (T108.setTop (mkF m 104 #[.val (.int pA), .val (.ref aB), .val (.int (16384 : Int32)), .val (.int (1 : Int32)), .unset] [(.int (32768 : Int32))]))
    refine own_back ?_ (fun t k => XS.istore X108.here hx rfl (hb hby at_104) rfl (l' := #[.val (.int pA), .val (.ref aB), .val (.int (16384 : Int32)), .val (.int (1 : Int32)), .val (.int (32768 : Int32))]) rfl k)
    show own_Go p e below PO (T108.setTop (mkF m 106 #[.val (.int pA), .val (.ref aB), .val (.int (16384 : Int32)), .val (.int (1 : Int32)), .val (.int (32768 : Int32))] []))
    refine own_back ?_ (fun t k => XS.iloadN X108.here hx rfl (hb hby at_106) rfl k)
    show own_Go p e below PO (T108.setTop (mkF m 107 #[.val (.int pA), .val (.ref aB), .val (.int (16384 : Int32)), .val (.int (1 : Int32)), .val (.int (32768 : Int32))] [(.int (1 : Int32))]))
    have hd107_135 : ¬ ((1 : Int32) = (0 : Int32)) := (by decide)
    refine own_back ?_ (fun t k => XS.ifNo X108.here hx rfl (hb hby at_107) rfl ((if0 _ _).trans (feq hd107_135).1) k)
    show own_Go p e below PO (T108.setTop (mkF m 110 #[.val (.int pA), .val (.ref aB), .val (.int (16384 : Int32)), .val (.int (1 : Int32)), .val (.int (32768 : Int32))] []))
    refine own_back ?_ (fun t k => XS.aloadN X108.here hx rfl (hb hby at_110) rfl rfl k)
    show own_Go p e below PO (T108.setTop (mkF m 111 #[.val (.int pA), .val (.ref aB), .val (.int (16384 : Int32)), .val (.int (1 : Int32)), .val (.int (32768 : Int32))] [(.ref aB)]))
    obtain ⟨cq136, kq136, q136a, q136b, q136c⟩ := isOf hZ e108 f103_104
    obtain ⟨_, _, ⟨T136, L136, k136, n136⟩, -, X136, ⟨Lc136, hQ136, l136, y136, z136⟩, st136⟩ := X108.virtualBack hx (y := (⟨"com/example/execd/execd/io/BodyReader", "nextRoom", "()I"⟩ : MethodName)) (z := (⟨"com/example/execd/execd/io/BodyReader", "nextRoom", "()I"⟩ : MethodName)) hown (mvT hZ (hw _ (List.mem_of_getElem? (i := 31) rfl))) (mvT hZ (hw _ (List.mem_of_getElem? (i := 32) rfl))) (notFace_of_selects (args := #[]) (mvT hZ (hw _ (List.mem_of_getElem? (i := 34) rfl)))) (mvT hZ (hw _ (List.mem_of_getElem? (i := 34) rfl))) (mvT hZ (hw _ (List.mem_of_getElem? (i := 33) rfl))) (by decide) (backOf (W := 0) (rmNext l Z a0 hw [] aB aD103 (own_next (0 : Int32) pA) pA T103.heap n0 Zh103 FD103 FL103 FN103 f103_104 LD103 ne_aB_aD103) hZ (hw _ (List.mem_of_getElem? (i := 35) rfl)) (hw _ (List.mem_of_getElem? (i := 2) rfl)) (by decide) (by decide)) q136a q136c (g := (mkF m 111 #[.val (.int pA), .val (.ref aB), .val (.int (16384 : Int32)), .val (.int (1 : Int32)), .val (.int (32768 : Int32))] [(.ref aB)])) rfl (by rw [hml]; rfl) (Steps.refl _) (argsL := []) (rest := []) (lenOf pd_3 rfl) rfl (by show 2 * 0 + _ ≤ _; exact Nat.le_of_eq rfl) (hb hby at_111) (fun _ _ => ⟨rfl, e108, (by decide : 4 + 0 ≤ _), (by decide : 16393 + 0 ≤ _)⟩)
    dsimp only [Pt.U, Pt.locs, Pt.cells, Pt.slots] at X136 l136 y136 z136 st136 hQ136
    subst l136 y136 z136
    obtain ⟨rfl, N136q, e136⟩ := hQ136
    have N136 := Fr.app N108 N136q
    refine own_back ?_ (fun t k => st136.trans k)
    show own_Go p e below PO (T136.setTop (mkF m 114 #[.val (.int pA), .val (.ref aB), .val (.int (16384 : Int32)), .val (.int (1 : Int32)), .val (.int (32768 : Int32))] [(.int (own_next (own_next (0 : Int32) pA) pA))]))
    refine own_back ?_ (fun t k => XS.iload X136.here hx rfl (hb hby at_114) rfl k)
    show own_Go p e below PO (T136.setTop (mkF m 116 #[.val (.int pA), .val (.ref aB), .val (.int (16384 : Int32)), .val (.int (1 : Int32)), .val (.int (32768 : Int32))] [(.int (32768 : Int32)), (.int (own_next (own_next (0 : Int32) pA) pA))]))
    have hd116_137 : (own_next (own_next (0 : Int32) pA) pA) = (32768 : Int32) := own_e2c hc50_102 hc93_111
    refine own_back ?_ (fun t k => XS.icmpNo X136.here hx rfl (hb hby at_116) rfl (teq hd116_137).2 k)
    show own_Go p e below PO (T136.setTop (mkF m 119 #[.val (.int pA), .val (.ref aB), .val (.int (16384 : Int32)), .val (.int (1 : Int32)), .val (.int (32768 : Int32))] []))
    refine own_back ?_ (fun t k => XS.iconst X136.here hx rfl (hb hby at_119) k)
    show own_Go p e below PO (T136.setTop (mkF m 120 #[.val (.int pA), .val (.ref aB), .val (.int (16384 : Int32)), .val (.int (1 : Int32)), .val (.int (32768 : Int32))] [(.int (1 : Int32))]))
    refine own_back ?_ (fun t k => XS.goto X136.here hx rfl (pc0 := 120) (pc' := 124) rfl (hb hby at_120) (by decide) (by decide) k)
    show own_Go p e below PO (T136.setTop (mkF m 124 #[.val (.int pA), .val (.ref aB), .val (.int (16384 : Int32)), .val (.int (1 : Int32)), .val (.int (32768 : Int32))] [(.int (1 : Int32))]))
    refine own_back ?_ (fun t k => XS.istoreN X136.here hx rfl (hb hby at_124) rfl (l' := #[.val (.int pA), .val (.ref aB), .val (.int (16384 : Int32)), .val (.int (1 : Int32)), .val (.int (32768 : Int32))]) rfl k)
    show own_Go p e below PO (T136.setTop (mkF m 125 #[.val (.int pA), .val (.ref aB), .val (.int (16384 : Int32)), .val (.int (1 : Int32)), .val (.int (32768 : Int32))] []))
    refine own_back ?_ (fun t k => XS.aloadN X136.here hx rfl (hb hby at_125) rfl rfl k)
    show own_Go p e below PO (T136.setTop (mkF m 126 #[.val (.int pA), .val (.ref aB), .val (.int (16384 : Int32)), .val (.int (1 : Int32)), .val (.int (32768 : Int32))] [(.ref aB)]))
    obtain ⟨cq138, kq138, q138a, q138b, q138c⟩ := isOf hZ e136 f103_104
    obtain ⟨_, _, ⟨T138, L138, k138, n138⟩, -, X138, ⟨Lc138, hQ138, l138, y138, z138⟩, st138⟩ := X136.virtualBack hx (y := (⟨"com/example/execd/execd/io/BodyReader", "grow", "()V"⟩ : MethodName)) (z := (⟨"com/example/execd/execd/io/BodyReader", "grow", "()V"⟩ : MethodName)) hown (mvT hZ (hw _ (List.mem_of_getElem? (i := 50) rfl))) (mvT hZ (hw _ (List.mem_of_getElem? (i := 51) rfl))) (notFace_of_selects (args := #[]) (mvT hZ (hw _ (List.mem_of_getElem? (i := 53) rfl)))) (mvT hZ (hw _ (List.mem_of_getElem? (i := 53) rfl))) (mvT hZ (hw _ (List.mem_of_getElem? (i := 52) rfl))) (by decide) (backOf (W := 0) (rmGrow_32768 l Z a0 hw [] aB aD103 (own_next (0 : Int32) pA) pA T103.heap n0 Zh103 FD103 FL103 FN103 f103_104 LD103 ne_aB_aD103 (own_n2b (own_ge hc50_102)) gn_aB) hZ (hw _ (List.mem_of_getElem? (i := 54) rfl)) (hw _ (List.mem_of_getElem? (i := 2) rfl)) (by decide) (by decide)) q138a q138c (g := (mkF m 126 #[.val (.int pA), .val (.ref aB), .val (.int (16384 : Int32)), .val (.int (1 : Int32)), .val (.int (32768 : Int32))] [(.ref aB)])) rfl (by rw [hml]; rfl) (Steps.refl _) (argsL := []) (rest := []) (lenOf pd_6 rfl) rfl (by show 2 * 0 + _ ≤ _; exact Nat.le_of_eq rfl) (hb hby at_126) (fun _ _ => ⟨rfl, e136, (by decide : 4 + 1 ≤ _), (by decide : 16393 + 32768 ≤ _)⟩)
    dsimp only [Pt.U, Pt.locs, Pt.cells, Pt.slots] at X138 l138 y138 z138 st138 hQ138
    subst l138 y138 z138
    obtain ⟨rfl, N138q, Kc138, aD138, sz138, FD138, FL138, FN138, LD138⟩ := hQ138
    have N138 := Fr.app N136 N138q
    have ne_aB_aD138 : aB ≠ aD138 := Nat.ne_of_lt (Nat.lt_of_lt_of_le f103_104.lt sz138)
    have ne_aD_aD138 : aD ≠ aD138 := Nat.ne_of_lt (Nat.lt_of_lt_of_le f103_106.lt sz138)
    have ne_aD103_aD138 : aD103 ≠ aD138 := Nat.ne_of_lt (Nat.lt_of_lt_of_le LD103.1.lt sz138)
    have sz_aD138 : h0.size ≤ aD138 := Nat.le_trans K103.1 sz138
    have gn_aD138 : n0 ≤ aD138 := Nat.le_trans Z0 sz_aD138
    have f138_139 := f103_104.keep Kc138
    have f138_140 := f103_105.keep Kc138 (ninS (Ne.symm neBD) nin0)
    have f138_141 := f103_106.keep Kc138
    have f138_142 := LD103.keep Kc138 (ninS (Ne.symm ne_aB_aD103) nin0)
    have f138_143 := LD103.1.keep Kc138
    have K138 : Keep h0 T138.heap [] := (K103).trans Kc138 (allS (Or.inr sz_aB) all0)
    have Zh138 : n0 ≤ T138.heap.size := Nat.le_trans Z0 K138.1
    refine own_back ?_ (fun t k => st138.trans k)
    show own_Go p e below PO (T138.setTop (mkF m 129 #[.val (.int pA), .val (.ref aB), .val (.int (16384 : Int32)), .val (.int (1 : Int32)), .val (.int (32768 : Int32))] []))
    refine own_back ?_ (fun t k => XS.iloadN X138.here hx rfl (hb hby at_129) rfl k)
    show own_Go p e below PO (T138.setTop (mkF m 130 #[.val (.int pA), .val (.ref aB), .val (.int (16384 : Int32)), .val (.int (1 : Int32)), .val (.int (32768 : Int32))] [(.int (1 : Int32))]))
    have hd130_144 : ¬ ((1 : Int32) = (0 : Int32)) := (by decide)
    refine own_back ?_ (fun t k => XS.ifNo X138.here hx rfl (hb hby at_130) rfl ((if0 _ _).trans (feq hd130_144).1) k)
    show own_Go p e below PO (T138.setTop (mkF m 133 #[.val (.int pA), .val (.ref aB), .val (.int (16384 : Int32)), .val (.int (1 : Int32)), .val (.int (32768 : Int32))] []))
    refine own_back ?_ (fun t k => XS.aloadN X138.here hx rfl (hb hby at_133) rfl rfl k)
    show own_Go p e below PO (T138.setTop (mkF m 134 #[.val (.int pA), .val (.ref aB), .val (.int (16384 : Int32)), .val (.int (1 : Int32)), .val (.int (32768 : Int32))] [(.ref aB)]))
    obtain ⟨cq145, kq145, q145a, q145b, q145c⟩ := isOf hZ rfl f138_139
    obtain ⟨_, _, ⟨T145, L145, k145, n145⟩, -, X145, ⟨Lc145, hQ145, l145, y145, z145⟩, st145⟩ := X138.virtualBack hx (y := (⟨"com/example/execd/execd/io/BodyReader", "room", "()I"⟩ : MethodName)) (z := (⟨"com/example/execd/execd/io/BodyReader", "room", "()I"⟩ : MethodName)) hown (mvT hZ (hw _ (List.mem_of_getElem? (i := 26) rfl))) (mvT hZ (hw _ (List.mem_of_getElem? (i := 27) rfl))) (notFace_of_selects (args := #[]) (mvT hZ (hw _ (List.mem_of_getElem? (i := 29) rfl)))) (mvT hZ (hw _ (List.mem_of_getElem? (i := 29) rfl))) (mvT hZ (hw _ (List.mem_of_getElem? (i := 28) rfl))) (by decide) (backOf (W := 0) (rmRoom l Z a0 hw [] aB aD138 (own_next (own_next (0 : Int32) pA) pA) pA T138.heap n0 Zh138 FD138 FL138 FN138 f138_139 LD138 ne_aB_aD138) hZ (hw _ (List.mem_of_getElem? (i := 30) rfl)) (hw _ (List.mem_of_getElem? (i := 2) rfl)) (by decide) (by decide)) q145a q145c (g := (mkF m 134 #[.val (.int pA), .val (.ref aB), .val (.int (16384 : Int32)), .val (.int (1 : Int32)), .val (.int (32768 : Int32))] [(.ref aB)])) rfl (by rw [hml]; rfl) (Steps.refl _) (argsL := []) (rest := []) (lenOf pd_3 rfl) rfl (by show 2 * 0 + _ ≤ _; exact Nat.le_of_eq rfl) (hb hby at_134) (fun _ _ => ⟨rfl, rfl, (by decide : 5 + 0 ≤ _), (by decide : 49161 + 0 ≤ _)⟩)
    dsimp only [Pt.U, Pt.locs, Pt.cells, Pt.slots] at X145 l145 y145 z145 st145 hQ145
    subst l145 y145 z145
    obtain ⟨rfl, N145q, e145⟩ := hQ145
    have N145 := Fr.app N138 N145q
    refine own_back ?_ (fun t k => st145.trans k)
    show own_Go p e below PO (T145.setTop (mkF m 137 #[.val (.int pA), .val (.ref aB), .val (.int (16384 : Int32)), .val (.int (1 : Int32)), .val (.int (32768 : Int32))] [(.int (own_next (own_next (0 : Int32) pA) pA))]))
    refine own_back ?_ (fun t k => XS.iload X145.here hx rfl (hb hby at_137) rfl k)
    show own_Go p e below PO (T145.setTop (mkF m 139 #[.val (.int pA), .val (.ref aB), .val (.int (16384 : Int32)), .val (.int (1 : Int32)), .val (.int (32768 : Int32))] [(.int (32768 : Int32)), (.int (own_next (own_next (0 : Int32) pA) pA))]))
    have hd139_146 : (own_next (own_next (0 : Int32) pA) pA) = (32768 : Int32) := own_e2c hc50_102 hc93_111
    refine own_back ?_ (fun t k => XS.icmpNo X145.here hx rfl (hb hby at_139) rfl (teq hd139_146).2 k)
    show own_Go p e below PO (T145.setTop (mkF m 142 #[.val (.int pA), .val (.ref aB), .val (.int (16384 : Int32)), .val (.int (1 : Int32)), .val (.int (32768 : Int32))] []))
    refine own_back ?_ (fun t k => XS.aloadN X145.here hx rfl (hb hby at_142) rfl rfl k)
    show own_Go p e below PO (T145.setTop (mkF m 143 #[.val (.int pA), .val (.ref aB), .val (.int (16384 : Int32)), .val (.int (1 : Int32)), .val (.int (32768 : Int32))] [(.ref aB)]))
    obtain ⟨cq147, kq147, q147a, q147b, q147c⟩ := isOf hZ e145 f138_139
    obtain ⟨_, _, ⟨T147, L147, k147, n147⟩, -, X147, ⟨Lc147, hQ147, l147, y147, z147⟩, st147⟩ := X145.virtualBack hx (y := (⟨"com/example/execd/execd/io/BodyReader", "body", "()[B"⟩ : MethodName)) (z := (⟨"com/example/execd/execd/io/BodyReader", "body", "()[B"⟩ : MethodName)) hown (mvT hZ (hw _ (List.mem_of_getElem? (i := 43) rfl))) (mvT hZ (hw _ (List.mem_of_getElem? (i := 44) rfl))) (notFace_of_selects (args := #[]) (mvT hZ (hw _ (List.mem_of_getElem? (i := 46) rfl)))) (mvT hZ (hw _ (List.mem_of_getElem? (i := 46) rfl))) (mvT hZ (hw _ (List.mem_of_getElem? (i := 45) rfl))) (by decide) (backOf (W := 0) (rmBody l Z a0 hw [] aB aD138 (own_next (own_next (0 : Int32) pA) pA) pA T138.heap n0 Zh138 FD138 FL138 FN138 f138_139 LD138 ne_aB_aD138) hZ (hw _ (List.mem_of_getElem? (i := 47) rfl)) (hw _ (List.mem_of_getElem? (i := 2) rfl)) (by decide) (by decide)) q147a q147c (g := (mkF m 143 #[.val (.int pA), .val (.ref aB), .val (.int (16384 : Int32)), .val (.int (1 : Int32)), .val (.int (32768 : Int32))] [(.ref aB)])) rfl (by rw [hml]; rfl) (Steps.refl _) (argsL := []) (rest := []) (lenOf pd_5 rfl) rfl (by show 2 * 0 + _ ≤ _; exact Nat.le_of_eq rfl) (hb hby at_143) (fun _ _ => ⟨rfl, e145, (by decide : 5 + 1 ≤ _), (by decide : 49161 + 0 ≤ _)⟩)
    dsimp only [Pt.U, Pt.locs, Pt.cells, Pt.slots] at X147 l147 y147 z147 st147 hQ147
    subst l147 y147 z147
    obtain ⟨aR147, rfl, N147q, Kc147, LR147⟩ := hQ147
    have N147 := Fr.app N145 N147q
    obtain ⟨ER147, kR147, vsR147, dR147, VR147⟩ := LR147
    have f147_148 := f138_139.keep Kc147
    have f147_149 := FD138.keep Kc147 nin0
    have f147_150 := FL138.keep Kc147 nin0
    have f147_151 := FN138.keep Kc147 nin0
    have f147_152 := f138_140.keep Kc147 nin0
    have f147_153 := f138_141.keep Kc147
    have f147_154 := f138_142.keep Kc147 nin0
    have f147_155 := f138_143.keep Kc147
    have f147_156 := LD138.keep Kc147 nin0
    have f147_157 := LD138.1.keep Kc147
    have K147 : Keep h0 T147.heap [] := (K138).trans Kc147 all0
    have Zh147 : n0 ≤ T147.heap.size := Nat.le_trans Z0 K147.1
    refine own_back ?_ (fun t k => st147.trans k)
    show own_Go p e below PO (T147.setTop (mkF m 146 #[.val (.int pA), .val (.ref aB), .val (.int (16384 : Int32)), .val (.int (1 : Int32)), .val (.int (32768 : Int32))] [(.ref aR147)]))
    refine own_back ?_ (own_len X147 hx hZ rfl VR147 (g := (mkF m 146 #[.val (.int pA), .val (.ref aB), .val (.int (16384 : Int32)), .val (.int (1 : Int32)), .val (.int (32768 : Int32))] [(.ref aR147)])) rfl rfl (hb hby at_146))
    show own_Go p e below PO (T147.setTop (mkF m 147 #[.val (.int pA), .val (.ref aB), .val (.int (16384 : Int32)), .val (.int (1 : Int32)), .val (.int (32768 : Int32))] [(.int (0 : Int32))]))
    refine own_back ?_ (fun t k => XS.ifNo X147.here hx rfl (hb hby at_147) rfl ((if0 _ _).trans (teq rfl).2) k)
    show own_Go p e below PO (T147.setTop (mkF m 150 #[.val (.int pA), .val (.ref aB), .val (.int (16384 : Int32)), .val (.int (1 : Int32)), .val (.int (32768 : Int32))] []))
    refine own_back ?_ (fun t k => XS.iconst X147.here hx rfl (hb hby at_150) k)
    show own_Go p e below PO (T147.setTop (mkF m 151 #[.val (.int pA), .val (.ref aB), .val (.int (16384 : Int32)), .val (.int (1 : Int32)), .val (.int (32768 : Int32))] [(.int (1 : Int32))]))
    refine own_back ?_ (fun t k => XS.goto X147.here hx rfl (pc0 := 151) (pc' := 155) rfl (hb hby at_151) (by decide) (by decide) k)
    show own_Go p e below PO (T147.setTop (mkF m 155 #[.val (.int pA), .val (.ref aB), .val (.int (16384 : Int32)), .val (.int (1 : Int32)), .val (.int (32768 : Int32))] [(.int (1 : Int32))]))
    refine own_back ?_ (fun t k => XS.istoreN X147.here hx rfl (hb hby at_155) rfl (l' := #[.val (.int pA), .val (.ref aB), .val (.int (16384 : Int32)), .val (.int (1 : Int32)), .val (.int (32768 : Int32))]) rfl k)
    show own_Go p e below PO (T147.setTop (mkF m 156 #[.val (.int pA), .val (.ref aB), .val (.int (16384 : Int32)), .val (.int (1 : Int32)), .val (.int (32768 : Int32))] []))
    refine own_back ?_ (fun t k => XS.iloadN X147.here hx rfl (hb hby at_156) rfl k)
    show own_Go p e below PO (T147.setTop (mkF m 157 #[.val (.int pA), .val (.ref aB), .val (.int (16384 : Int32)), .val (.int (1 : Int32)), .val (.int (32768 : Int32))] [(.int (1 : Int32))]))
    refine own_retN X147 hx (t := .boolean) (rest := []) Bd.returns (by decide) (by simp) (hb hby at_157) rfl (Bd.notSynchronized) ?_ (by decide) (by decide)
    exact ⟨rfl, N147⟩
  refine own_back ?_ (fun t k => XS.icmpNo X108.here hx rfl (hb hby at_81) rfl (flt hc81_110).2.2.1 k)
  show own_Go p e below PO (T108.setTop (mkF m 84 #[.val (.int pA), .val (.ref aB), .val (.int (16384 : Int32)), .val (.int (1 : Int32)), .unset] []))
  refine own_back ?_ (fun t k => XS.iloadN X108.here hx rfl (hb hby at_84) rfl k)
  show own_Go p e below PO (T108.setTop (mkF m 85 #[.val (.int pA), .val (.ref aB), .val (.int (16384 : Int32)), .val (.int (1 : Int32)), .unset] [(.int pA)]))
  refine own_back ?_ (fun t k => XS.istore X108.here hx rfl (hb hby at_85) rfl (l' := #[.val (.int pA), .val (.ref aB), .val (.int (16384 : Int32)), .val (.int (1 : Int32)), .val (.int pA)]) rfl k)
  show own_Go p e below PO (T108.setTop (mkF m 87 #[.val (.int pA), .val (.ref aB), .val (.int (16384 : Int32)), .val (.int (1 : Int32)), .val (.int pA)] []))
  refine own_back ?_ (fun t k => XS.goto X108.here hx rfl (pc0 := 87) (pc' := 106) rfl (hb hby at_87) (by decide) (by decide) k)
  show own_Go p e below PO (T108.setTop (mkF m 106 #[.val (.int pA), .val (.ref aB), .val (.int (16384 : Int32)), .val (.int (1 : Int32)), .val (.int pA)] []))
  refine own_back ?_ (fun t k => XS.iloadN X108.here hx rfl (hb hby at_106) rfl k)
  show own_Go p e below PO (T108.setTop (mkF m 107 #[.val (.int pA), .val (.ref aB), .val (.int (16384 : Int32)), .val (.int (1 : Int32)), .val (.int pA)] [(.int (1 : Int32))]))
  have hd107_158 : ¬ ((1 : Int32) = (0 : Int32)) := (by decide)
  refine own_back ?_ (fun t k => XS.ifNo X108.here hx rfl (hb hby at_107) rfl ((if0 _ _).trans (feq hd107_158).1) k)
  show own_Go p e below PO (T108.setTop (mkF m 110 #[.val (.int pA), .val (.ref aB), .val (.int (16384 : Int32)), .val (.int (1 : Int32)), .val (.int pA)] []))
  refine own_back ?_ (fun t k => XS.aloadN X108.here hx rfl (hb hby at_110) rfl rfl k)
  show own_Go p e below PO (T108.setTop (mkF m 111 #[.val (.int pA), .val (.ref aB), .val (.int (16384 : Int32)), .val (.int (1 : Int32)), .val (.int pA)] [(.ref aB)]))
  obtain ⟨cq159, kq159, q159a, q159b, q159c⟩ := isOf hZ e108 f103_104
  obtain ⟨_, _, ⟨T159, L159, k159, n159⟩, -, X159, ⟨Lc159, hQ159, l159, y159, z159⟩, st159⟩ := X108.virtualBack hx (y := (⟨"com/example/execd/execd/io/BodyReader", "nextRoom", "()I"⟩ : MethodName)) (z := (⟨"com/example/execd/execd/io/BodyReader", "nextRoom", "()I"⟩ : MethodName)) hown (mvT hZ (hw _ (List.mem_of_getElem? (i := 31) rfl))) (mvT hZ (hw _ (List.mem_of_getElem? (i := 32) rfl))) (notFace_of_selects (args := #[]) (mvT hZ (hw _ (List.mem_of_getElem? (i := 34) rfl)))) (mvT hZ (hw _ (List.mem_of_getElem? (i := 34) rfl))) (mvT hZ (hw _ (List.mem_of_getElem? (i := 33) rfl))) (by decide) (backOf (W := 0) (rmNext l Z a0 hw [] aB aD103 (own_next (0 : Int32) pA) pA T103.heap n0 Zh103 FD103 FL103 FN103 f103_104 LD103 ne_aB_aD103) hZ (hw _ (List.mem_of_getElem? (i := 35) rfl)) (hw _ (List.mem_of_getElem? (i := 2) rfl)) (by decide) (by decide)) q159a q159c (g := (mkF m 111 #[.val (.int pA), .val (.ref aB), .val (.int (16384 : Int32)), .val (.int (1 : Int32)), .val (.int pA)] [(.ref aB)])) rfl (by rw [hml]; rfl) (Steps.refl _) (argsL := []) (rest := []) (lenOf pd_3 rfl) rfl (by show 2 * 0 + _ ≤ _; exact Nat.le_of_eq rfl) (hb hby at_111) (fun _ _ => ⟨rfl, e108, (by decide : 4 + 0 ≤ _), (by decide : 16393 + 0 ≤ _)⟩)
  dsimp only [Pt.U, Pt.locs, Pt.cells, Pt.slots] at X159 l159 y159 z159 st159 hQ159
  subst l159 y159 z159
  obtain ⟨rfl, N159q, e159⟩ := hQ159
  have N159 := Fr.app N108 N159q
  refine own_back ?_ (fun t k => st159.trans k)
  show own_Go p e below PO (T159.setTop (mkF m 114 #[.val (.int pA), .val (.ref aB), .val (.int (16384 : Int32)), .val (.int (1 : Int32)), .val (.int pA)] [(.int (own_next (own_next (0 : Int32) pA) pA))]))
  refine own_back ?_ (fun t k => XS.iload X159.here hx rfl (hb hby at_114) rfl k)
  show own_Go p e below PO (T159.setTop (mkF m 116 #[.val (.int pA), .val (.ref aB), .val (.int (16384 : Int32)), .val (.int (1 : Int32)), .val (.int pA)] [(.int pA), (.int (own_next (own_next (0 : Int32) pA) pA))]))
  have hd116_160 : (own_next (own_next (0 : Int32) pA) pA) = pA := own_e2a hc50_102 hc81_110
  refine own_back ?_ (fun t k => XS.icmpNo X159.here hx rfl (hb hby at_116) rfl (teq hd116_160).2 k)
  show own_Go p e below PO (T159.setTop (mkF m 119 #[.val (.int pA), .val (.ref aB), .val (.int (16384 : Int32)), .val (.int (1 : Int32)), .val (.int pA)] []))
  refine own_back ?_ (fun t k => XS.iconst X159.here hx rfl (hb hby at_119) k)
  show own_Go p e below PO (T159.setTop (mkF m 120 #[.val (.int pA), .val (.ref aB), .val (.int (16384 : Int32)), .val (.int (1 : Int32)), .val (.int pA)] [(.int (1 : Int32))]))
  refine own_back ?_ (fun t k => XS.goto X159.here hx rfl (pc0 := 120) (pc' := 124) rfl (hb hby at_120) (by decide) (by decide) k)
  show own_Go p e below PO (T159.setTop (mkF m 124 #[.val (.int pA), .val (.ref aB), .val (.int (16384 : Int32)), .val (.int (1 : Int32)), .val (.int pA)] [(.int (1 : Int32))]))
  refine own_back ?_ (fun t k => XS.istoreN X159.here hx rfl (hb hby at_124) rfl (l' := #[.val (.int pA), .val (.ref aB), .val (.int (16384 : Int32)), .val (.int (1 : Int32)), .val (.int pA)]) rfl k)
  show own_Go p e below PO (T159.setTop (mkF m 125 #[.val (.int pA), .val (.ref aB), .val (.int (16384 : Int32)), .val (.int (1 : Int32)), .val (.int pA)] []))
  refine own_back ?_ (fun t k => XS.aloadN X159.here hx rfl (hb hby at_125) rfl rfl k)
  show own_Go p e below PO (T159.setTop (mkF m 126 #[.val (.int pA), .val (.ref aB), .val (.int (16384 : Int32)), .val (.int (1 : Int32)), .val (.int pA)] [(.ref aB)]))
  obtain ⟨cq161, kq161, q161a, q161b, q161c⟩ := isOf hZ e159 f103_104
  obtain ⟨_, _, ⟨T161, L161, k161, n161⟩, -, X161, ⟨Lc161, hQ161, l161, y161, z161⟩, st161⟩ := X159.virtualBack hx (y := (⟨"com/example/execd/execd/io/BodyReader", "grow", "()V"⟩ : MethodName)) (z := (⟨"com/example/execd/execd/io/BodyReader", "grow", "()V"⟩ : MethodName)) hown (mvT hZ (hw _ (List.mem_of_getElem? (i := 50) rfl))) (mvT hZ (hw _ (List.mem_of_getElem? (i := 51) rfl))) (notFace_of_selects (args := #[]) (mvT hZ (hw _ (List.mem_of_getElem? (i := 53) rfl)))) (mvT hZ (hw _ (List.mem_of_getElem? (i := 53) rfl))) (mvT hZ (hw _ (List.mem_of_getElem? (i := 52) rfl))) (by decide) (backOf (W := 0) (rmGrow_32768 l Z a0 hw [] aB aD103 (own_next (0 : Int32) pA) pA T103.heap n0 Zh103 FD103 FL103 FN103 f103_104 LD103 ne_aB_aD103 (own_n2b (own_ge hc50_102)) gn_aB) hZ (hw _ (List.mem_of_getElem? (i := 54) rfl)) (hw _ (List.mem_of_getElem? (i := 2) rfl)) (by decide) (by decide)) q161a q161c (g := (mkF m 126 #[.val (.int pA), .val (.ref aB), .val (.int (16384 : Int32)), .val (.int (1 : Int32)), .val (.int pA)] [(.ref aB)])) rfl (by rw [hml]; rfl) (Steps.refl _) (argsL := []) (rest := []) (lenOf pd_6 rfl) rfl (by show 2 * 0 + _ ≤ _; exact Nat.le_of_eq rfl) (hb hby at_126) (fun _ _ => ⟨rfl, e159, (by decide : 4 + 1 ≤ _), (by decide : 16393 + 32768 ≤ _)⟩)
  dsimp only [Pt.U, Pt.locs, Pt.cells, Pt.slots] at X161 l161 y161 z161 st161 hQ161
  subst l161 y161 z161
  obtain ⟨rfl, N161q, Kc161, aD161, sz161, FD161, FL161, FN161, LD161⟩ := hQ161
  have N161 := Fr.app N159 N161q
  have ne_aB_aD161 : aB ≠ aD161 := Nat.ne_of_lt (Nat.lt_of_lt_of_le f103_104.lt sz161)
  have ne_aD_aD161 : aD ≠ aD161 := Nat.ne_of_lt (Nat.lt_of_lt_of_le f103_106.lt sz161)
  have ne_aD103_aD161 : aD103 ≠ aD161 := Nat.ne_of_lt (Nat.lt_of_lt_of_le LD103.1.lt sz161)
  have sz_aD161 : h0.size ≤ aD161 := Nat.le_trans K103.1 sz161
  have gn_aD161 : n0 ≤ aD161 := Nat.le_trans Z0 sz_aD161
  have f161_162 := f103_104.keep Kc161
  have f161_163 := f103_105.keep Kc161 (ninS (Ne.symm neBD) nin0)
  have f161_164 := f103_106.keep Kc161
  have f161_165 := LD103.keep Kc161 (ninS (Ne.symm ne_aB_aD103) nin0)
  have f161_166 := LD103.1.keep Kc161
  have K161 : Keep h0 T161.heap [] := (K103).trans Kc161 (allS (Or.inr sz_aB) all0)
  have Zh161 : n0 ≤ T161.heap.size := Nat.le_trans Z0 K161.1
  refine own_back ?_ (fun t k => st161.trans k)
  show own_Go p e below PO (T161.setTop (mkF m 129 #[.val (.int pA), .val (.ref aB), .val (.int (16384 : Int32)), .val (.int (1 : Int32)), .val (.int pA)] []))
  refine own_back ?_ (fun t k => XS.iloadN X161.here hx rfl (hb hby at_129) rfl k)
  show own_Go p e below PO (T161.setTop (mkF m 130 #[.val (.int pA), .val (.ref aB), .val (.int (16384 : Int32)), .val (.int (1 : Int32)), .val (.int pA)] [(.int (1 : Int32))]))
  have hd130_167 : ¬ ((1 : Int32) = (0 : Int32)) := (by decide)
  refine own_back ?_ (fun t k => XS.ifNo X161.here hx rfl (hb hby at_130) rfl ((if0 _ _).trans (feq hd130_167).1) k)
  show own_Go p e below PO (T161.setTop (mkF m 133 #[.val (.int pA), .val (.ref aB), .val (.int (16384 : Int32)), .val (.int (1 : Int32)), .val (.int pA)] []))
  refine own_back ?_ (fun t k => XS.aloadN X161.here hx rfl (hb hby at_133) rfl rfl k)
  show own_Go p e below PO (T161.setTop (mkF m 134 #[.val (.int pA), .val (.ref aB), .val (.int (16384 : Int32)), .val (.int (1 : Int32)), .val (.int pA)] [(.ref aB)]))
  obtain ⟨cq168, kq168, q168a, q168b, q168c⟩ := isOf hZ rfl f161_162
  obtain ⟨_, _, ⟨T168, L168, k168, n168⟩, -, X168, ⟨Lc168, hQ168, l168, y168, z168⟩, st168⟩ := X161.virtualBack hx (y := (⟨"com/example/execd/execd/io/BodyReader", "room", "()I"⟩ : MethodName)) (z := (⟨"com/example/execd/execd/io/BodyReader", "room", "()I"⟩ : MethodName)) hown (mvT hZ (hw _ (List.mem_of_getElem? (i := 26) rfl))) (mvT hZ (hw _ (List.mem_of_getElem? (i := 27) rfl))) (notFace_of_selects (args := #[]) (mvT hZ (hw _ (List.mem_of_getElem? (i := 29) rfl)))) (mvT hZ (hw _ (List.mem_of_getElem? (i := 29) rfl))) (mvT hZ (hw _ (List.mem_of_getElem? (i := 28) rfl))) (by decide) (backOf (W := 0) (rmRoom l Z a0 hw [] aB aD161 (own_next (own_next (0 : Int32) pA) pA) pA T161.heap n0 Zh161 FD161 FL161 FN161 f161_162 LD161 ne_aB_aD161) hZ (hw _ (List.mem_of_getElem? (i := 30) rfl)) (hw _ (List.mem_of_getElem? (i := 2) rfl)) (by decide) (by decide)) q168a q168c (g := (mkF m 134 #[.val (.int pA), .val (.ref aB), .val (.int (16384 : Int32)), .val (.int (1 : Int32)), .val (.int pA)] [(.ref aB)])) rfl (by rw [hml]; rfl) (Steps.refl _) (argsL := []) (rest := []) (lenOf pd_3 rfl) rfl (by show 2 * 0 + _ ≤ _; exact Nat.le_of_eq rfl) (hb hby at_134) (fun _ _ => ⟨rfl, rfl, (by decide : 5 + 0 ≤ _), (by decide : 49161 + 0 ≤ _)⟩)
  dsimp only [Pt.U, Pt.locs, Pt.cells, Pt.slots] at X168 l168 y168 z168 st168 hQ168
  subst l168 y168 z168
  obtain ⟨rfl, N168q, e168⟩ := hQ168
  have N168 := Fr.app N161 N168q
  refine own_back ?_ (fun t k => st168.trans k)
  show own_Go p e below PO (T168.setTop (mkF m 137 #[.val (.int pA), .val (.ref aB), .val (.int (16384 : Int32)), .val (.int (1 : Int32)), .val (.int pA)] [(.int (own_next (own_next (0 : Int32) pA) pA))]))
  refine own_back ?_ (fun t k => XS.iload X168.here hx rfl (hb hby at_137) rfl k)
  show own_Go p e below PO (T168.setTop (mkF m 139 #[.val (.int pA), .val (.ref aB), .val (.int (16384 : Int32)), .val (.int (1 : Int32)), .val (.int pA)] [(.int pA), (.int (own_next (own_next (0 : Int32) pA) pA))]))
  have hd139_169 : (own_next (own_next (0 : Int32) pA) pA) = pA := own_e2a hc50_102 hc81_110
  refine own_back ?_ (fun t k => XS.icmpNo X168.here hx rfl (hb hby at_139) rfl (teq hd139_169).2 k)
  show own_Go p e below PO (T168.setTop (mkF m 142 #[.val (.int pA), .val (.ref aB), .val (.int (16384 : Int32)), .val (.int (1 : Int32)), .val (.int pA)] []))
  refine own_back ?_ (fun t k => XS.aloadN X168.here hx rfl (hb hby at_142) rfl rfl k)
  show own_Go p e below PO (T168.setTop (mkF m 143 #[.val (.int pA), .val (.ref aB), .val (.int (16384 : Int32)), .val (.int (1 : Int32)), .val (.int pA)] [(.ref aB)]))
  obtain ⟨cq170, kq170, q170a, q170b, q170c⟩ := isOf hZ e168 f161_162
  obtain ⟨_, _, ⟨T170, L170, k170, n170⟩, -, X170, ⟨Lc170, hQ170, l170, y170, z170⟩, st170⟩ := X168.virtualBack hx (y := (⟨"com/example/execd/execd/io/BodyReader", "body", "()[B"⟩ : MethodName)) (z := (⟨"com/example/execd/execd/io/BodyReader", "body", "()[B"⟩ : MethodName)) hown (mvT hZ (hw _ (List.mem_of_getElem? (i := 43) rfl))) (mvT hZ (hw _ (List.mem_of_getElem? (i := 44) rfl))) (notFace_of_selects (args := #[]) (mvT hZ (hw _ (List.mem_of_getElem? (i := 46) rfl)))) (mvT hZ (hw _ (List.mem_of_getElem? (i := 46) rfl))) (mvT hZ (hw _ (List.mem_of_getElem? (i := 45) rfl))) (by decide) (backOf (W := 0) (rmBody l Z a0 hw [] aB aD161 (own_next (own_next (0 : Int32) pA) pA) pA T161.heap n0 Zh161 FD161 FL161 FN161 f161_162 LD161 ne_aB_aD161) hZ (hw _ (List.mem_of_getElem? (i := 47) rfl)) (hw _ (List.mem_of_getElem? (i := 2) rfl)) (by decide) (by decide)) q170a q170c (g := (mkF m 143 #[.val (.int pA), .val (.ref aB), .val (.int (16384 : Int32)), .val (.int (1 : Int32)), .val (.int pA)] [(.ref aB)])) rfl (by rw [hml]; rfl) (Steps.refl _) (argsL := []) (rest := []) (lenOf pd_5 rfl) rfl (by show 2 * 0 + _ ≤ _; exact Nat.le_of_eq rfl) (hb hby at_143) (fun _ _ => ⟨rfl, e168, (by decide : 5 + 1 ≤ _), (by decide : 49161 + 0 ≤ _)⟩)
  dsimp only [Pt.U, Pt.locs, Pt.cells, Pt.slots] at X170 l170 y170 z170 st170 hQ170
  subst l170 y170 z170
  obtain ⟨aR170, rfl, N170q, Kc170, LR170⟩ := hQ170
  have N170 := Fr.app N168 N170q
  obtain ⟨ER170, kR170, vsR170, dR170, VR170⟩ := LR170
  have f170_171 := f161_162.keep Kc170
  have f170_172 := FD161.keep Kc170 nin0
  have f170_173 := FL161.keep Kc170 nin0
  have f170_174 := FN161.keep Kc170 nin0
  have f170_175 := f161_163.keep Kc170 nin0
  have f170_176 := f161_164.keep Kc170
  have f170_177 := f161_165.keep Kc170 nin0
  have f170_178 := f161_166.keep Kc170
  have f170_179 := LD161.keep Kc170 nin0
  have f170_180 := LD161.1.keep Kc170
  have K170 : Keep h0 T170.heap [] := (K161).trans Kc170 all0
  have Zh170 : n0 ≤ T170.heap.size := Nat.le_trans Z0 K170.1
  refine own_back ?_ (fun t k => st170.trans k)
  show own_Go p e below PO (T170.setTop (mkF m 146 #[.val (.int pA), .val (.ref aB), .val (.int (16384 : Int32)), .val (.int (1 : Int32)), .val (.int pA)] [(.ref aR170)]))
  refine own_back ?_ (own_len X170 hx hZ rfl VR170 (g := (mkF m 146 #[.val (.int pA), .val (.ref aB), .val (.int (16384 : Int32)), .val (.int (1 : Int32)), .val (.int pA)] [(.ref aR170)])) rfl rfl (hb hby at_146))
  show own_Go p e below PO (T170.setTop (mkF m 147 #[.val (.int pA), .val (.ref aB), .val (.int (16384 : Int32)), .val (.int (1 : Int32)), .val (.int pA)] [(.int (0 : Int32))]))
  refine own_back ?_ (fun t k => XS.ifNo X170.here hx rfl (hb hby at_147) rfl ((if0 _ _).trans (teq rfl).2) k)
  show own_Go p e below PO (T170.setTop (mkF m 150 #[.val (.int pA), .val (.ref aB), .val (.int (16384 : Int32)), .val (.int (1 : Int32)), .val (.int pA)] []))
  refine own_back ?_ (fun t k => XS.iconst X170.here hx rfl (hb hby at_150) k)
  show own_Go p e below PO (T170.setTop (mkF m 151 #[.val (.int pA), .val (.ref aB), .val (.int (16384 : Int32)), .val (.int (1 : Int32)), .val (.int pA)] [(.int (1 : Int32))]))
  refine own_back ?_ (fun t k => XS.goto X170.here hx rfl (pc0 := 151) (pc' := 155) rfl (hb hby at_151) (by decide) (by decide) k)
  show own_Go p e below PO (T170.setTop (mkF m 155 #[.val (.int pA), .val (.ref aB), .val (.int (16384 : Int32)), .val (.int (1 : Int32)), .val (.int pA)] [(.int (1 : Int32))]))
  refine own_back ?_ (fun t k => XS.istoreN X170.here hx rfl (hb hby at_155) rfl (l' := #[.val (.int pA), .val (.ref aB), .val (.int (16384 : Int32)), .val (.int (1 : Int32)), .val (.int pA)]) rfl k)
  show own_Go p e below PO (T170.setTop (mkF m 156 #[.val (.int pA), .val (.ref aB), .val (.int (16384 : Int32)), .val (.int (1 : Int32)), .val (.int pA)] []))
  refine own_back ?_ (fun t k => XS.iloadN X170.here hx rfl (hb hby at_156) rfl k)
  show own_Go p e below PO (T170.setTop (mkF m 157 #[.val (.int pA), .val (.ref aB), .val (.int (16384 : Int32)), .val (.int (1 : Int32)), .val (.int pA)] [(.int (1 : Int32))]))
  refine own_retN X170 hx (t := .boolean) (rest := []) Bd.returns (by decide) (by simp) (hb hby at_157) rfl (Bd.notSynchronized) ?_ (by decide) (by decide)
  exact ⟨rfl, N170⟩
set_option maxRecDepth 65536 in
set_option maxHeartbeats 40000000 in
theorem comes_1 {Post : Tables → Env → Array Value → State → Outcome → State → Prop} (hpost : ∀ tb e args s v u, (limb_1_1.after args s (.returned v) u = true ∧ limb_1_2.after args s (.returned v) u = true ∧ True) → FrameEnd s (.returned v) u (Jvm.fieldLocs frame_1_writes args s ++ Jvm.arrayLocs frame_1_arrays args s ++ Jvm.staticLocs frame_1_statics s) 24 98432 → Post tb e args s (.returned v) u) :
    ArmFor flags0 classFile x code maxLocals ret World_1 tables_1 room_1 Calls_1 rest_1 Pre_1 Post := by
  intro l hfl _ _ p e ha hc hk s m args below hf hA hF happ hP
  obtain ⟨hcalls, hrest, hpre⟩ := hP
  obtain ⟨-, -, -, hnamed, -, -, -, hat⟩ := (Spec.applies_iff hf).mp happ
  obtain ⟨hg, hn⟩ := and_e (Cond.before_iff.mp (show (Jvm.Cond.and given_1 narrow_1).before args s = true from hpre))
  obtain ⟨gc, g0⟩ := and_e hg
  obtain ⟨w0, rfl⟩ : ∃ w0 : Value, args = #[w0] := by
    have hs : args.size = 1 := by simpa [Cond.value, given_1] using gc
    obtain ⟨L⟩ := args
    match L, hs with
    | [w0], _ => exact ⟨w0, rfl⟩
  have hw := fun d (hd : d ∈ tables_1) => atoms_spec (ws := Jvm.Cond.code x code maxLocals ret :: tables_1) hat d (List.mem_cons_of_mem _ hd)
  obtain ⟨i0, ei0⟩ := is_v g0
  obtain rfl : w0 = (.int i0) := Option.some.inj ei0
  obtain ⟨a_CHUNK_SIZE, ev_CHUNK_SIZE⟩ := exa_v hn
  have E_CHUNK_SIZE := Exa.start ev_CHUNK_SIZE hn
  have S_CHUNK_SIZE := Sta.start ev_CHUNK_SIZE (Or.inr ⟨(hw _ (List.mem_of_getElem? (i := 7) rfl)), (hw _ (List.mem_of_getElem? (i := 8) rfl))⟩)
  obtain ⟨n, o, h1, h2, h3, _, L, rfl, ⟨rfl, N⟩, hq⟩ := rm0 l s _ hw tables_1 i0 a_CHUNK_SIZE s.heap s.heap.size (Nat.le_refl _) S_CHUNK_SIZE p e ha hc hk s m _ below hf ((Spec.applies_iff_loose hf).mp happ).1 ⟨rfl, State.Warmed39.refl s, rfl⟩ trivial
  refine ⟨n, _, h1, h2, h3, hpost _ _ _ _ _ _ ⟨Cond.after_iff.mpr rfl, Cond.after_iff.mpr (eq_i res_at (Term.int_eval (1)) rfl), trivial⟩ ⟨hq.1, hq.2.1, (hq.2.2.sift fun y hy => Or.inr (N y hy)).mono (by decide) (by decide)⟩⟩
theorem main_1_1 : Claimed_1_1 := comes_1 fun _ _ _ _ _ _ h hF => ⟨h.1, hF⟩
theorem main_1_2 : Claimed_1_2 := comes_1 fun _ _ _ _ _ _ h hF => ⟨h.2.1, hF⟩
end Jvm.Pilot.@@N@@
namespace Jvm.Pilot.@@N@@
open Jvm Jvm.ClassFile Sem Op Lib Jvm.Free Jvm.Stand Jvm.Pilot.@@N@@.Jvm.D
/-! MADE BY PROGRAM (witnessworld.py) out of the Statement's table words and the real class files: 16 classes; the members and pool entries that the words name. The judged class is class 1, her method 1. -/
namespace start1
open Jvm.ClassFile
def u (s : String) : CpInfo := .utf8 (stringToUtf16 s)
/-- a pool by its gaps: so many unusable entries, then the entry; so many at the end -/
def gap : Nat → List CpInfo → List CpInfo
  | 0, r => r
  | n + 1, r => .unusable :: gap n r
def poolList (es : List (Nat × CpInfo)) (last : Nat) : List CpInfo := es.foldr (fun e r => gap e.1 (e.2 :: r)) (gap last [])
def pool (es : List (Nat × CpInfo)) (last : Nat) : Array CpInfo := ⟨poolList es last⟩
def fileOf (pool : Array CpInfo) (this : Nat) (attrs : Array Attribute := #[]) (ms : Array MethodInfo := #[]) (fl : Nat := 33) (sup : Nat := 0) (ifs : Array Nat := #[]) (fds : Array FieldInfo := #[]) : ClassFile where
  minorVersion := 0
  majorVersion := 65
  constantPool := pool
  accessFlags := fl
  thisClass := this
  superClass := sup
  interfaces := ifs
  fields := fds
  methods := ms
  attributes := attrs
def plain (name : String) (sup : Option ClassId) : Class where
  name := name
  kind := .ordinary
  loader := none
  accessFlags := 33
  super := sup
  interfaces := #[]
  cf := none
  fields := #[]
  methods := #[]
  instanceTypes := #[]
  staticTypes := #[]
  resolved := #[]
  callSites := []
  init := .initialized
  statics := none
  mirror := none

def pool0 : Array CpInfo := pool [(5, u "<init>"), (0, u "()V"), (1, .class_ 10), (1, u "java/lang/Object"), (85, u "clone"), (0, u "()Ljava/lang/Object;")] 26

def k0c0 : Code := { maxStack := 0, maxLocals := 1, code := object_method_1_code, exceptionTable := #[], attributes := #[] }
def k0m0 : Method := { name := "<init>", desc := "()V", sig := { parameters := [], returnType := none }, accessFlags := 1, code := some k0c0 }
def k0m1 : Method := { name := "clone", desc := "()Ljava/lang/Object;", sig := { parameters := [], returnType := some (.object "java/lang/Object") }, accessFlags := 260, code := none }
/-- java/lang/Object -/
def k0 : Class := { plain "java/lang/Object" none with
  accessFlags := 33
  interfaces := #[]
  cf := some (fileOf pool0 8 #[] #[{ accessFlags := 1, nameIndex := 5, descriptorIndex := 6, attributes := #[] }, { accessFlags := 260, nameIndex := 96, descriptorIndex := 97, attributes := #[] }] 33 0 #[] #[])
  fields := #[]
  methods := #[k0m0, k0m1]
  instanceTypes := #[]
  staticTypes := #[]
  resolved := Array.replicate 124 none
  statics := none }

def pool1 : Array CpInfo := pool [(2, .class_ 4), (1, u "java/lang/Object"), (0, u "<init>"), (0, u "()V"), (0, .methodref 8 9), (0, .class_ 10), (0, .nameAndType 11 12), (0, u "com/example/execd/execd/io/BodyReader"), (0, u "chunked"), (0, u "(I)Lcom/example/execd/execd/io/BodyReader;"), (0, .methodref 8 14), (0, .nameAndType 15 16), (0, u "room"), (0, u "()I"), (0, .methodref 8 18), (0, .nameAndType 19 16), (0, u "nextRoom"), (0, .methodref 8 21), (0, .nameAndType 22 23), (0, u "body"), (0, u "()[B"), (0, .methodref 8 25), (0, .nameAndType 26 6), (0, u "grow"), (0, .integer 32768), (0, .class_ 29), (0, u "com/example/execd/execd/io/BodyReaderChunkedPinLaw"), (2, u "law"), (0, u "(I)Z")] 3

def k1m0 : Method := { name := "<init>", desc := "()V", sig := { parameters := [], returnType := none }, accessFlags := 2, code := none }
def k1c1 : Code := { maxStack := 2, maxLocals := 5, code := code, exceptionTable := #[], attributes := #[] }
def k1m1 : Method := { name := "law", desc := "(I)Z", sig := { parameters := [.int], returnType := some .boolean }, accessFlags := 9, code := some k1c1 }
/-- com/example/execd/execd/io/BodyReaderChunkedPinLaw -/
def k1 : Class := { plain "com/example/execd/execd/io/BodyReaderChunkedPinLaw" (some 0) with
  accessFlags := 49
  interfaces := #[]
  cf := some (fileOf pool1 28 #[] #[{ accessFlags := 2, nameIndex := 5, descriptorIndex := 6, attributes := #[] }, { accessFlags := 9, nameIndex := 32, descriptorIndex := 33, attributes := #[] }] 49 2 #[] #[])
  fields := #[]
  methods := #[k1m0, k1m1]
  instanceTypes := #[]
  staticTypes := #[]
  resolved := Array.replicate 37 none
  statics := none }

def pool2 : Array CpInfo := pool [(1, .methodref 2 3), (0, .class_ 4), (0, .nameAndType 5 6), (0, u "java/lang/Object"), (0, u "<init>"), (0, u "()V"), (0, .fieldref 8 9), (0, .class_ 10), (0, .nameAndType 11 12), (0, u "com/example/execd/execd/io/BodyReader"), (0, u "data"), (0, u "[B"), (0, .fieldref 8 14), (0, .nameAndType 15 16), (0, u "chunked"), (0, u "Z"), (0, .fieldref 8 18), (0, .nameAndType 19 20), (0, u "limit"), (0, u "I"), (0, .fieldref 8 22), (0, .nameAndType 23 24), (0, u "step"), (0, u "Lcom/example/execd/execd/io/BodyReader$Step;"), (0, .fieldref 8 26), (0, .nameAndType 27 28), (0, u "left"), (0, u "J"), (1, .class_ 32), (1, u "com/example/execd/execd/io/BodyReader$Step"), (4, .methodref 8 38), (0, .nameAndType 5 39), (0, u "(ZILcom/example/execd/execd/io/BodyReader$Step;J)V"), (0, .fieldref 30 41), (0, .nameAndType 42 24), (0, u "CHUNK_SIZE"), (1, .class_ 46), (1, u "com/example/execd/execd/io/BodyReader$Progress"), (23, .methodref 71 72), (0, .class_ 73), (0, .nameAndType 74 75), (0, u "java/lang/Math"), (0, u "max"), (0, u "(II)I"), (0, .methodref 71 77), (0, .nameAndType 78 75), (0, u "min"), (0, .methodref 8 80), (0, .nameAndType 81 82), (0, u "nextRoom"), (0, u "()I"), (0, .methodref 84 85), (0, .class_ 86), (0, .nameAndType 87 88), (0, u "java/util/Arrays"), (0, u "copyOf"), (0, u "([BI)[B"), (0, .fieldref 8 90), (0, .nameAndType 91 20), (0, u "length"), (17, u "framingBytes"), (24, u "trailerLine"), (20, u "sized"), (16, u "FIRST_ROOM"), (2, u "MAX_FRAMING_BYTES"), (4, u "(I)Lcom/example/execd/execd/io/BodyReader;"), (3, u "room"), (0, u "grow"), (0, u "body"), (0, u "()[B")] 23

def k2c0 : Code := { maxStack := 3, maxLocals := 6, code := prog_6_method_1_code, exceptionTable := #[], attributes := #[] }
def k2m0 : Method := { name := "<init>", desc := "(ZILcom/example/execd/execd/io/BodyReader$Step;J)V", sig := { parameters := [.boolean, .int, (.object "com/example/execd/execd/io/BodyReader$Step"), .long], returnType := none }, accessFlags := 2, code := some k2c0 }
def k2c1 : Code := { maxStack := 7, maxLocals := 1, code := prog_6_method_3_code, exceptionTable := #[], attributes := #[] }
def k2m1 : Method := { name := "chunked", desc := "(I)Lcom/example/execd/execd/io/BodyReader;", sig := { parameters := [.int], returnType := some (.object "com/example/execd/execd/io/BodyReader") }, accessFlags := 8, code := some k2c1 }
def k2c2 : Code := { maxStack := 1, maxLocals := 1, code := prog_6_method_5_code, exceptionTable := #[], attributes := #[] }
def k2m2 : Method := { name := "room", desc := "()I", sig := { parameters := [], returnType := some .int }, accessFlags := 0, code := some k2c2 }
def k2c3 : Code := { maxStack := 3, maxLocals := 1, code := prog_6_method_6_code, exceptionTable := #[], attributes := #[] }
def k2m3 : Method := { name := "nextRoom", desc := "()I", sig := { parameters := [], returnType := some .int }, accessFlags := 0, code := some k2c3 }
def k2c4 : Code := { maxStack := 3, maxLocals := 1, code := prog_6_method_7_code, exceptionTable := #[], attributes := #[] }
def k2m4 : Method := { name := "grow", desc := "()V", sig := { parameters := [], returnType := none }, accessFlags := 0, code := some k2c4 }
def k2c5 : Code := { maxStack := 2, maxLocals := 1, code := prog_6_method_8_code, exceptionTable := #[], attributes := #[] }
def k2m5 : Method := { name := "body", desc := "()[B", sig := { parameters := [], returnType := some (.array .byte) }, accessFlags := 0, code := some k2c5 }
/-- com/example/execd/execd/io/BodyReader -/
def k2 : Class := { plain "com/example/execd/execd/io/BodyReader" (some 0) with
  accessFlags := 48
  interfaces := #[]
  cf := some (fileOf pool2 8 #[.nestMembers #[30, 44]] #[{ accessFlags := 2, nameIndex := 5, descriptorIndex := 39, attributes := #[] }, { accessFlags := 8, nameIndex := 15, descriptorIndex := 180, attributes := #[] }, { accessFlags := 0, nameIndex := 184, descriptorIndex := 82, attributes := #[] }, { accessFlags := 0, nameIndex := 81, descriptorIndex := 82, attributes := #[] }, { accessFlags := 0, nameIndex := 185, descriptorIndex := 6, attributes := #[] }, { accessFlags := 0, nameIndex := 186, descriptorIndex := 187, attributes := #[] }] 48 2 #[] #[{ accessFlags := 26, nameIndex := 172, descriptorIndex := 20, attributes := #[] }, { accessFlags := 26, nameIndex := 175, descriptorIndex := 20, attributes := #[] }, { accessFlags := 18, nameIndex := 15, descriptorIndex := 16, attributes := #[] }, { accessFlags := 18, nameIndex := 19, descriptorIndex := 20, attributes := #[] }, { accessFlags := 2, nameIndex := 11, descriptorIndex := 12, attributes := #[] }, { accessFlags := 2, nameIndex := 91, descriptorIndex := 20, attributes := #[] }, { accessFlags := 2, nameIndex := 23, descriptorIndex := 24, attributes := #[] }, { accessFlags := 2, nameIndex := 27, descriptorIndex := 28, attributes := #[] }, { accessFlags := 2, nameIndex := 155, descriptorIndex := 16, attributes := #[] }, { accessFlags := 2, nameIndex := 109, descriptorIndex := 20, attributes := #[] }, { accessFlags := 2, nameIndex := 134, descriptorIndex := 16, attributes := #[] }])
  fields := #[{ name := "FIRST_ROOM", type := .int, accessFlags := 26, slot := 0, constantValue := 0 }, { name := "MAX_FRAMING_BYTES", type := .int, accessFlags := 26, slot := 1, constantValue := 0 }, { name := "chunked", type := .boolean, accessFlags := 18, slot := 0, constantValue := 0 }, { name := "limit", type := .int, accessFlags := 18, slot := 1, constantValue := 0 }, { name := "data", type := (.array .byte), accessFlags := 2, slot := 2, constantValue := 0 }, { name := "length", type := .int, accessFlags := 2, slot := 3, constantValue := 0 }, { name := "step", type := (.object "com/example/execd/execd/io/BodyReader$Step"), accessFlags := 2, slot := 4, constantValue := 0 }, { name := "left", type := .long, accessFlags := 2, slot := 5, constantValue := 0 }, { name := "sized", type := .boolean, accessFlags := 2, slot := 6, constantValue := 0 }, { name := "framingBytes", type := .int, accessFlags := 2, slot := 7, constantValue := 0 }, { name := "trailerLine", type := .boolean, accessFlags := 2, slot := 8, constantValue := 0 }]
  methods := #[k2m0, k2m1, k2m2, k2m3, k2m4, k2m5]
  instanceTypes := #[.boolean, .int, (.array .byte), .int, (.object "com/example/execd/execd/io/BodyReader$Step"), .long, .boolean, .int, .boolean]
  staticTypes := #[.int, .int]
  resolved := Array.replicate 211 none
  statics := none }

def pool3 : Array CpInfo := pool [(1, .class_ 2), (0, u "java/lang/constant/Constable"), (0, .class_ 4), (0, u "java/lang/Object")] 6

/-- java/lang/constant/Constable -/
def k3 : Class := { plain "java/lang/constant/Constable" (some 0) with
  accessFlags := 1537
  interfaces := #[]
  cf := some (fileOf pool3 1 #[] #[] 1537 3 #[] #[])
  fields := #[]
  methods := #[]
  instanceTypes := #[]
  staticTypes := #[]
  resolved := Array.replicate 11 none
  statics := none }

def pool4 : Array CpInfo := pool [(1, .class_ 2), (0, u "java/lang/Comparable"), (0, .class_ 4), (0, u "java/lang/Object")] 7

/-- java/lang/Comparable -/
def k4 : Class := { plain "java/lang/Comparable" (some 0) with
  accessFlags := 1537
  interfaces := #[]
  cf := some (fileOf pool4 1 #[] #[] 1537 3 #[] #[])
  fields := #[]
  methods := #[]
  instanceTypes := #[]
  staticTypes := #[]
  resolved := Array.replicate 12 none
  statics := none }

def pool5 : Array CpInfo := pool [(1, .class_ 2), (0, u "java/io/Serializable"), (0, .class_ 4), (0, u "java/lang/Object")] 2

/-- java/io/Serializable -/
def k5 : Class := { plain "java/io/Serializable" (some 0) with
  accessFlags := 1537
  interfaces := #[]
  cf := some (fileOf pool5 1 #[] #[] 1537 3 #[] #[])
  fields := #[]
  methods := #[]
  instanceTypes := #[]
  staticTypes := #[]
  resolved := Array.replicate 7 none
  statics := none }

def pool6 : Array CpInfo := pool [(2, .class_ 4), (1, u "java/lang/Enum"), (0, u "name"), (0, u "Ljava/lang/String;"), (2, u "ordinal"), (0, u "I"), (1, .class_ 14), (1, u "java/lang/Object"), (4, u "hash"), (86, .class_ 108), (1, u "java/lang/Enum$EnumDesc"), (2, .class_ 112), (0, u "java/lang/constant/Constable"), (0, .class_ 114), (0, u "java/lang/Comparable"), (0, .class_ 116), (0, u "java/io/Serializable")] 87

/-- java/lang/Enum -/
def k6 : Class := { plain "java/lang/Enum" (some 0) with
  accessFlags := 1057
  interfaces := #[3, 4, 5]
  cf := some (fileOf pool6 2 #[.nestMembers #[106]] #[] 1057 12 #[111, 113, 115] #[{ accessFlags := 18, nameIndex := 5, descriptorIndex := 6, attributes := #[] }, { accessFlags := 18, nameIndex := 9, descriptorIndex := 10, attributes := #[] }, { accessFlags := 2, nameIndex := 19, descriptorIndex := 10, attributes := #[] }])
  fields := #[{ name := "name", type := (.object "java/lang/String"), accessFlags := 18, slot := 0, constantValue := 0 }, { name := "ordinal", type := .int, accessFlags := 18, slot := 1, constantValue := 0 }, { name := "hash", type := .int, accessFlags := 2, slot := 2, constantValue := 0 }]
  methods := #[]
  instanceTypes := #[(.object "java/lang/String"), .int, .int]
  staticTypes := #[]
  resolved := Array.replicate 204 none
  statics := none }

def pool7 : Array CpInfo := pool [(1, .class_ 2), (0, u "com/example/execd/execd/io/BodyReader$Step"), (2, u "DATA"), (0, u "Lcom/example/execd/execd/io/BodyReader$Step;"), (2, u "CHUNK_SIZE"), (2, u "CHUNK_EXTENSION"), (2, u "CHUNK_END"), (2, u "TRAILER"), (2, u "DONE"), (2, u "$VALUES"), (0, u "[Lcom/example/execd/execd/io/BodyReader$Step;"), (6, .class_ 34), (1, u "java/lang/Enum"), (29, .class_ 65), (0, u "com/example/execd/execd/io/BodyReader")] 2

/-- com/example/execd/execd/io/BodyReader$Step -/
def k7 : Class := { plain "com/example/execd/execd/io/BodyReader$Step" (some 6) with
  accessFlags := 16432
  interfaces := #[]
  cf := some (fileOf pool7 1 #[.nestHost 64] #[] 16432 32 #[] #[{ accessFlags := 16409, nameIndex := 5, descriptorIndex := 6, attributes := #[] }, { accessFlags := 16409, nameIndex := 9, descriptorIndex := 6, attributes := #[] }, { accessFlags := 16409, nameIndex := 12, descriptorIndex := 6, attributes := #[] }, { accessFlags := 16409, nameIndex := 15, descriptorIndex := 6, attributes := #[] }, { accessFlags := 16409, nameIndex := 18, descriptorIndex := 6, attributes := #[] }, { accessFlags := 16409, nameIndex := 21, descriptorIndex := 6, attributes := #[] }, { accessFlags := 4122, nameIndex := 24, descriptorIndex := 25, attributes := #[] }])
  fields := #[{ name := "DATA", type := (.object "com/example/execd/execd/io/BodyReader$Step"), accessFlags := 16409, slot := 0, constantValue := 0 }, { name := "CHUNK_SIZE", type := (.object "com/example/execd/execd/io/BodyReader$Step"), accessFlags := 16409, slot := 1, constantValue := 0 }, { name := "CHUNK_EXTENSION", type := (.object "com/example/execd/execd/io/BodyReader$Step"), accessFlags := 16409, slot := 2, constantValue := 0 }, { name := "CHUNK_END", type := (.object "com/example/execd/execd/io/BodyReader$Step"), accessFlags := 16409, slot := 3, constantValue := 0 }, { name := "TRAILER", type := (.object "com/example/execd/execd/io/BodyReader$Step"), accessFlags := 16409, slot := 4, constantValue := 0 }, { name := "DONE", type := (.object "com/example/execd/execd/io/BodyReader$Step"), accessFlags := 16409, slot := 5, constantValue := 0 }, { name := "$VALUES", type := (.array (.object "com/example/execd/execd/io/BodyReader$Step")), accessFlags := 4122, slot := 6, constantValue := 0 }]
  methods := #[]
  instanceTypes := #[(.object "java/lang/String"), .int, .int]
  staticTypes := #[(.object "com/example/execd/execd/io/BodyReader$Step"), (.object "com/example/execd/execd/io/BodyReader$Step"), (.object "com/example/execd/execd/io/BodyReader$Step"), (.object "com/example/execd/execd/io/BodyReader$Step"), (.object "com/example/execd/execd/io/BodyReader$Step"), (.object "com/example/execd/execd/io/BodyReader$Step"), (.array (.object "com/example/execd/execd/io/BodyReader$Step"))]
  resolved := Array.replicate 68 none
  statics := some 0 }

def pool8 : Array CpInfo := pool [(1, .class_ 2), (0, u "java/lang/Math"), (1, .class_ 6), (1, u "java/lang/Object"), (0, u "<init>"), (0, u "()V"), (89, .class_ 100), (1, u "java/lang/Math$RandomNumberGeneratorHolder"), (71, u "negativeZeroFloatBits"), (0, u "J"), (2, u "negativeZeroDoubleBits"), (21, u "max"), (2, u "min"), (43, u "$assertionsDisabled"), (0, u "Z"), (88, u "(II)I"), (2, u "twoToTheDoubleScaleDown"), (0, u "D"), (4, u "twoToTheDoubleScaleUp"), (9, u "E"), (3, u "PI"), (2, u "TAU"), (2, u "DEGREES_TO_RADIANS"), (0, u "RADIANS_TO_DEGREES")] 94

def k8m0 : Method := { name := "<init>", desc := "()V", sig := { parameters := [], returnType := none }, accessFlags := 2, code := none }
def k8c1 : Code := { maxStack := 2, maxLocals := 2, code := jdk_29_method_65_code, exceptionTable := #[], attributes := #[] }
def k8m1 : Method := { name := "max", desc := "(II)I", sig := { parameters := [.int, .int], returnType := some .int }, accessFlags := 9, code := some k8c1 }
def k8c2 : Code := { maxStack := 2, maxLocals := 2, code := jdk_29_method_69_code, exceptionTable := #[], attributes := #[] }
def k8m2 : Method := { name := "min", desc := "(II)I", sig := { parameters := [.int, .int], returnType := some .int }, accessFlags := 9, code := some k8c2 }
/-- java/lang/Math -/
def k8 : Class := { plain "java/lang/Math" (some 0) with
  accessFlags := 49
  interfaces := #[]
  cf := some (fileOf pool8 1 #[.nestMembers #[98]] #[{ accessFlags := 2, nameIndex := 7, descriptorIndex := 8, attributes := #[] }, { accessFlags := 9, nameIndex := 198, descriptorIndex := 335, attributes := #[] }, { accessFlags := 9, nameIndex := 201, descriptorIndex := 335, attributes := #[] }] 49 4 #[] #[{ accessFlags := 25, nameIndex := 354, descriptorIndex := 339, attributes := #[] }, { accessFlags := 25, nameIndex := 358, descriptorIndex := 339, attributes := #[] }, { accessFlags := 25, nameIndex := 361, descriptorIndex := 339, attributes := #[] }, { accessFlags := 26, nameIndex := 364, descriptorIndex := 339, attributes := #[] }, { accessFlags := 26, nameIndex := 365, descriptorIndex := 339, attributes := #[] }, { accessFlags := 26, nameIndex := 172, descriptorIndex := 173, attributes := #[] }, { accessFlags := 26, nameIndex := 176, descriptorIndex := 173, attributes := #[] }, { accessFlags := 8, nameIndex := 344, descriptorIndex := 339, attributes := #[] }, { accessFlags := 8, nameIndex := 338, descriptorIndex := 339, attributes := #[] }, { accessFlags := 4120, nameIndex := 245, descriptorIndex := 246, attributes := #[] }])
  fields := #[{ name := "E", type := .double, accessFlags := 25, slot := 0, constantValue := 0 }, { name := "PI", type := .double, accessFlags := 25, slot := 1, constantValue := 0 }, { name := "TAU", type := .double, accessFlags := 25, slot := 2, constantValue := 0 }, { name := "DEGREES_TO_RADIANS", type := .double, accessFlags := 26, slot := 3, constantValue := 0 }, { name := "RADIANS_TO_DEGREES", type := .double, accessFlags := 26, slot := 4, constantValue := 0 }, { name := "negativeZeroFloatBits", type := .long, accessFlags := 26, slot := 5, constantValue := 0 }, { name := "negativeZeroDoubleBits", type := .long, accessFlags := 26, slot := 6, constantValue := 0 }, { name := "twoToTheDoubleScaleUp", type := .double, accessFlags := 8, slot := 7, constantValue := 0 }, { name := "twoToTheDoubleScaleDown", type := .double, accessFlags := 8, slot := 8, constantValue := 0 }, { name := "$assertionsDisabled", type := .boolean, accessFlags := 4120, slot := 9, constantValue := 0 }]
  methods := #[k8m0, k8m1, k8m2]
  instanceTypes := #[]
  staticTypes := #[.double, .double, .double, .double, .double, .long, .long, .double, .double, .boolean]
  resolved := Array.replicate 460 none
  statics := none }

def pool9 : Array CpInfo := pool [(2, .class_ 4), (1, u "java/lang/Object"), (0, u "<init>"), (0, u "()V"), (7, .class_ 16), (1, u "java/util/Arrays"), (57, .class_ 76), (1, u "java/util/Arrays$NaturalOrder"), (32, u "()Ljava/lang/Object;"), (3, .class_ 115), (1, u "java/util/Arrays$LegacyMergeSort"), (1, u "Z"), (10, .nameAndType 129 109), (0, u "clone"), (20, .methodref 151 152), (0, .class_ 153), (0, .nameAndType 154 155), (0, u "java/lang/System"), (0, u "arraycopy"), (0, u "(Ljava/lang/Object;ILjava/lang/Object;II)V"), (146, u "copyOf"), (1, .methodref 305 306), (0, .class_ 307), (0, .nameAndType 308 309), (0, u "java/lang/Math"), (0, u "min"), (0, u "(II)I"), (0, .methodref 311 128), (0, .class_ 312), (0, u "[B"), (62, .class_ 376), (0, u "java/util/Arrays$ArrayList"), (68, u "$assertionsDisabled"), (269, u "MIN_ARRAY_SORT_GRAN"), (0, u "I"), (2, u "INSERTIONSORT_THRESHOLD"), (149, u "([BI)[B"), (105, .class_ 976), (0, u "java/util/Arrays$ArrayItr")] 52

def k9m0 : Method := { name := "<init>", desc := "()V", sig := { parameters := [], returnType := none }, accessFlags := 2, code := none }
def k9c1 : Code := { maxStack := 6, maxLocals := 3, code := jdk_65_method_121_code, exceptionTable := #[], attributes := #[] }
def k9m1 : Method := { name := "copyOf", desc := "([BI)[B", sig := { parameters := [(.array .byte), .int], returnType := some (.array .byte) }, accessFlags := 9, code := some k9c1 }
/-- java/util/Arrays -/
def k9 : Class := { plain "java/util/Arrays" (some 0) with
  accessFlags := 49
  interfaces := #[]
  cf := some (fileOf pool9 14 #[.nestMembers #[975, 375, 113, 74]] #[{ accessFlags := 2, nameIndex := 5, descriptorIndex := 6, attributes := #[] }, { accessFlags := 9, nameIndex := 302, descriptorIndex := 869, attributes := #[] }] 49 2 #[] #[{ accessFlags := 26, nameIndex := 715, descriptorIndex := 716, attributes := #[] }, { accessFlags := 26, nameIndex := 719, descriptorIndex := 716, attributes := #[] }, { accessFlags := 4120, nameIndex := 445, descriptorIndex := 117, attributes := #[] }])
  fields := #[{ name := "MIN_ARRAY_SORT_GRAN", type := .int, accessFlags := 26, slot := 0, constantValue := 0 }, { name := "INSERTIONSORT_THRESHOLD", type := .int, accessFlags := 26, slot := 1, constantValue := 0 }, { name := "$assertionsDisabled", type := .boolean, accessFlags := 4120, slot := 2, constantValue := 0 }]
  methods := #[k9m0, k9m1]
  instanceTypes := #[]
  staticTypes := #[.int, .int, .boolean]
  resolved := Array.replicate 1029 none
  statics := none }

def pool10 : Array CpInfo := pool [(1, .class_ 2), (0, u "java/lang/Cloneable"), (0, .class_ 4), (0, u "java/lang/Object")] 2

/-- java/lang/Cloneable -/
def k10 : Class := { plain "java/lang/Cloneable" (some 0) with
  accessFlags := 1537
  interfaces := #[]
  cf := some (fileOf pool10 1 #[] #[] 1537 3 #[] #[])
  fields := #[]
  methods := #[]
  instanceTypes := #[]
  staticTypes := #[]
  resolved := Array.replicate 7 none
  statics := none }

def pool11 : Array CpInfo := pool [(2, .class_ 4), (1, u "java/lang/Object"), (0, u "<init>"), (0, u "()V"), (1, .class_ 10), (1, u "java/lang/System"), (0, u "allowSecurityManager"), (0, u "I"), (16, u "cons"), (0, u "Ljava/io/Console;"), (77, .class_ 110), (1, u "java/lang/System$CallersHolder"), (43, u "initialErrStream"), (0, u "Ljava/io/PrintStream;"), (19, u "security"), (0, u "Ljava/lang/SecurityManager;"), (31, .class_ 209), (0, u "java/lang/System$1"), (7, u "props"), (0, u "Ljava/util/Properties;"), (2, u "lineSeparator"), (0, u "Ljava/lang/String;"), (96, .class_ 321), (1, u "java/lang/System$LoggerFinder"), (5, .class_ 328), (0, u "java/lang/System$Logger"), (67, u "err"), (2, u "out"), (91, u "notSupportedJnuEncoding"), (15, u "in"), (17, u "initialIn"), (0, u "Ljava/io/InputStream;"), (35, u "bootLayer"), (0, u "Ljava/lang/ModuleLayer;"), (99, .class_ 664), (0, u "java/lang/System$2"), (9, u "NEVER"), (2, u "MAYBE"), (49, u "arraycopy"), (0, u "(Ljava/lang/Object;ILjava/lang/Object;II)V"), (72, .class_ 802), (0, u "java/lang/System$Logger$Level")] 31

def k11m0 : Method := { name := "<init>", desc := "()V", sig := { parameters := [], returnType := none }, accessFlags := 2, code := none }
def k11m1 : Method := { name := "arraycopy", desc := "(Ljava/lang/Object;ILjava/lang/Object;II)V", sig := { parameters := [(.object "java/lang/Object"), .int, (.object "java/lang/Object"), .int, .int], returnType := none }, accessFlags := 265, code := none }
/-- java/lang/System -/
def k11 : Class := { plain "java/lang/System" (some 0) with
  accessFlags := 49
  interfaces := #[]
  cf := some (fileOf pool11 8 #[.nestMembers #[319, 327, 801, 108, 663, 208]] #[{ accessFlags := 2, nameIndex := 5, descriptorIndex := 6, attributes := #[] }, { accessFlags := 265, nameIndex := 727, descriptorIndex := 728, attributes := #[] }] 49 2 #[] #[{ accessFlags := 25, nameIndex := 507, descriptorIndex := 526, attributes := #[] }, { accessFlags := 25, nameIndex := 399, descriptorIndex := 155, attributes := #[] }, { accessFlags := 25, nameIndex := 396, descriptorIndex := 155, attributes := #[] }, { accessFlags := 10, nameIndex := 525, descriptorIndex := 526, attributes := #[] }, { accessFlags := 26, nameIndex := 674, descriptorIndex := 12, attributes := #[] }, { accessFlags := 26, nameIndex := 677, descriptorIndex := 12, attributes := #[] }, { accessFlags := 10, nameIndex := 11, descriptorIndex := 12, attributes := #[] }, { accessFlags := 74, nameIndex := 175, descriptorIndex := 176, attributes := #[] }, { accessFlags := 10, nameIndex := 491, descriptorIndex := 222, attributes := #[] }, { accessFlags := 74, nameIndex := 29, descriptorIndex := 30, attributes := #[] }, { accessFlags := 74, nameIndex := 154, descriptorIndex := 155, attributes := #[] }, { accessFlags := 10, nameIndex := 217, descriptorIndex := 218, attributes := #[] }, { accessFlags := 10, nameIndex := 221, descriptorIndex := 222, attributes := #[] }, { accessFlags := 8, nameIndex := 562, descriptorIndex := 563, attributes := #[] }])
  fields := #[{ name := "in", type := (.object "java/io/InputStream"), accessFlags := 25, slot := 0, constantValue := 0 }, { name := "out", type := (.object "java/io/PrintStream"), accessFlags := 25, slot := 1, constantValue := 0 }, { name := "err", type := (.object "java/io/PrintStream"), accessFlags := 25, slot := 2, constantValue := 0 }, { name := "initialIn", type := (.object "java/io/InputStream"), accessFlags := 10, slot := 3, constantValue := 0 }, { name := "NEVER", type := .int, accessFlags := 26, slot := 4, constantValue := 0 }, { name := "MAYBE", type := .int, accessFlags := 26, slot := 5, constantValue := 0 }, { name := "allowSecurityManager", type := .int, accessFlags := 10, slot := 6, constantValue := 0 }, { name := "security", type := (.object "java/lang/SecurityManager"), accessFlags := 74, slot := 7, constantValue := 0 }, { name := "notSupportedJnuEncoding", type := (.object "java/lang/String"), accessFlags := 10, slot := 8, constantValue := 0 }, { name := "cons", type := (.object "java/io/Console"), accessFlags := 74, slot := 9, constantValue := 0 }, { name := "initialErrStream", type := (.object "java/io/PrintStream"), accessFlags := 74, slot := 10, constantValue := 0 }, { name := "props", type := (.object "java/util/Properties"), accessFlags := 10, slot := 11, constantValue := 0 }, { name := "lineSeparator", type := (.object "java/lang/String"), accessFlags := 10, slot := 12, constantValue := 0 }, { name := "bootLayer", type := (.object "java/lang/ModuleLayer"), accessFlags := 8, slot := 13, constantValue := 0 }]
  methods := #[k11m0, k11m1]
  instanceTypes := #[]
  staticTypes := #[(.object "java/io/InputStream"), (.object "java/io/PrintStream"), (.object "java/io/PrintStream"), (.object "java/io/InputStream"), .int, .int, .int, (.object "java/lang/SecurityManager"), (.object "java/lang/String"), (.object "java/io/Console"), (.object "java/io/PrintStream"), (.object "java/util/Properties"), (.object "java/lang/String"), (.object "java/lang/ModuleLayer")]
  resolved := Array.replicate 834 none
  statics := none }

/-- the primitive byte -/
def k12 : Class := { plain "byte" none with kind := .primitive 'B', accessFlags := 0x411 }
/-- [B -/
def k13 : Class := { plain "[B" (some 0) with kind := .array 12 .byte, interfaces := #[10, 5], accessFlags := 1041 }

/-- the primitive int -/
def k14 : Class := { plain "int" none with kind := .primitive 'I', accessFlags := 0x411 }
/-- [I -/
def k15 : Class := { plain "[I" (some 0) with kind := .array 14 .int, interfaces := #[10, 5], accessFlags := 1041 }

def heap : Heap := #[{ cls := 7, slots := #[.null, .ref 1, .null, .null, .null, .null, .null], vm := .statics 7 },
  { cls := 7, slots := #[.null, .int 0, .int 0], vm := .none }]
def classes : Array Class := #[k0, k1, k2, k3, k4, k5, k6, k7, k8, k9, k10, k11, k12, k13, k14, k15]
def interned : List (Array UInt16 × Addr) := []
def slotsUsed : Nat := 10
def theMethod : MethodId := ⟨1, 1⟩
def args0 : Array Value := #[.int 5]
def aboutOver (below : List Frame) : State where
  vm := { classes := classes, interned := interned.toArray }
  heap := heap
  slotsUsed := slotsUsed
  threads := #[{ frames := .invoking theMethod args0 :: below }]
def below0 : List Frame := [.native { method := ⟨0, 0⟩, args := #[] }]
def about1 : State := aboutOver below0
def p0 : Program := .bare "" "" ""
def e0 : Env := launch0.env 0 0 0
theorem w_frames : about1.frames = Frame.invoking theMethod args0 :: below0 := rfl
set_option maxRecDepth 65536 in
theorem w_args : argsFit about1.vm theMethod args0 = true := by decide +kernel
set_option maxRecDepth 65536 in
theorem w_heap : heapFits about1 = true := by decide +kernel
set_option maxRecDepth 65536 in
theorem w_runnable : about1.curStatus? = some .runnable := by decide +kernel
set_option maxRecDepth 65536 in
theorem w_alone : about1.alone = true := by decide +kernel
set_option maxRecDepth 65536 in
theorem w_named : about1.methodNamed? x = some theMethod := by decide +kernel
set_option maxRecDepth 65536 in
theorem w_hears : about1.hears theMethod below0 = true := by decide +kernel
set_option maxRecDepth 65536 in
theorem w_ripe : about1.ripe theMethod args0 below0 = true := by decide +kernel
theorem w_running : about1.status = .running := rfl
set_option maxRecDepth 65536 in
theorem w_room : about1.hasRoom e0.platform room_1 = true :=
  launch0.hasRoom_least _ room_1 (by decide +kernel) (by decide +kernel) (by decide +kernel) (by decide +kernel) (by decide +kernel) (by decide +kernel)
theorem allAtoms_all (ts : List Jvm.Cond) (a : Array Jvm.Value) (st : Jvm.State) : (allAtoms ts).before a st = ts.all (fun c => c.before a st) := by
  induction ts with
  | nil => rfl
  | cons c t ih =>
    show (Jvm.Cond.and c (allAtoms t)).before a st = _
    rw [Jvm.Cond.before_and, ih, List.all_cons]
def words1 : List Jvm.Cond := Jvm.Cond.code x code maxLocals ret :: tables_1
/-- a 'code' word, met by the world's own term for the bytes: nothing is compared byte by byte -/
theorem code_word {y : MethodName} {bytes : ByteArray} {mx : Nat} {rt : Option FieldType} {a : Array Value} {s : State} {m : MethodId} {meth : Method} {c : Code} (h1 : s.methodNamed? y = some m) (h2 : s.vm.method? m = some meth) (h3 : meth.code = some c) (h4 : c.code = bytes)
    (h5 : (c.maxLocals == mx && c.exceptionTable.isEmpty && decide (c.maxStack ≤ mostOperands) && decide (meth.sig.returnType = rt) && !meth.locks && decide (parseMethodDescriptor y.desc = some meth.sig)) = true) : (Jvm.Cond.code y bytes mx rt).before a s = true := by
  simp only [Bool.and_eq_true, beq_iff_eq, Bool.not_eq_true', decide_eq_true_eq] at h5
  obtain ⟨⟨⟨⟨⟨g1, g2⟩, g3⟩, g4⟩, g5⟩, g6⟩ := h5
  simp [Cond.before, Cond.holds, Cond.value, h1, h2, h3, h4, g1, g2, g3, g4, g5, g6]
def isCode : Jvm.Cond → Bool
  | .code _ _ _ _ => true
  | _ => false
theorem all_split {L : List Jvm.Cond} {P : Jvm.Cond → Bool} (h1 : L.all (fun c => isCode c || P c) = true) (h2 : ∀ c ∈ L.filter isCode, P c = true) : L.all P = true := by
  refine List.all_eq_true.mpr fun c hc => ?_
  have h := List.all_eq_true.mp h1 c hc
  rcases Bool.eq_false_or_eq_true (isCode c) with hi | hi
  · exact h2 c (List.mem_filter.mpr ⟨hc, hi⟩)
  · simpa [hi] using h
set_option maxRecDepth 65536 in
theorem w_c0 : (Jvm.Cond.code x code maxLocals ret).before args0 about1 = true := code_word (m := ⟨1, 1⟩) (meth := k1m1) (c := k1c1) (by decide +kernel) rfl rfl rfl (by decide +kernel)
set_option maxRecDepth 65536 in
theorem w_c1 : (Jvm.Cond.code ({ cls := "com/example/execd/execd/io/BodyReader", name := "chunked", desc := "(I)Lcom/example/execd/execd/io/BodyReader;" } : Jvm.MethodName) prog_6_method_3_code (1 : Nat) (Option.some (Jvm.ClassFile.FieldType.object "com/example/execd/execd/io/BodyReader"))).before args0 about1 = true := code_word (m := ⟨2, 1⟩) (meth := k2m1) (c := k2c1) (by decide +kernel) rfl rfl rfl (by decide +kernel)
set_option maxRecDepth 65536 in
theorem w_c2 : (Jvm.Cond.code ({ cls := "com/example/execd/execd/io/BodyReader", name := "<init>", desc := "(ZILcom/example/execd/execd/io/BodyReader$Step;J)V" } : Jvm.MethodName) prog_6_method_1_code (6 : Nat) (Option.none : Option Jvm.ClassFile.FieldType)).before args0 about1 = true := code_word (m := ⟨2, 0⟩) (meth := k2m0) (c := k2c0) (by decide +kernel) rfl rfl rfl (by decide +kernel)
set_option maxRecDepth 65536 in
theorem w_c3 : (Jvm.Cond.code ({ cls := "java/lang/Object", name := "<init>", desc := "()V" } : Jvm.MethodName) object_method_1_code (1 : Nat) (Option.none : Option Jvm.ClassFile.FieldType)).before args0 about1 = true := code_word (m := ⟨0, 0⟩) (meth := k0m0) (c := k0c0) (by decide +kernel) rfl rfl rfl (by decide +kernel)
set_option maxRecDepth 65536 in
theorem w_c4 : (Jvm.Cond.code ({ cls := "com/example/execd/execd/io/BodyReader", name := "room", desc := "()I" } : Jvm.MethodName) prog_6_method_5_code (1 : Nat) (Option.some Jvm.ClassFile.FieldType.int)).before args0 about1 = true := code_word (m := ⟨2, 2⟩) (meth := k2m2) (c := k2c2) (by decide +kernel) rfl rfl rfl (by decide +kernel)
set_option maxRecDepth 65536 in
theorem w_c5 : (Jvm.Cond.code ({ cls := "com/example/execd/execd/io/BodyReader", name := "nextRoom", desc := "()I" } : Jvm.MethodName) prog_6_method_6_code (1 : Nat) (Option.some Jvm.ClassFile.FieldType.int)).before args0 about1 = true := code_word (m := ⟨2, 3⟩) (meth := k2m3) (c := k2c3) (by decide +kernel) rfl rfl rfl (by decide +kernel)
set_option maxRecDepth 65536 in
theorem w_c6 : (Jvm.Cond.code ({ cls := "java/lang/Math", name := "max", desc := "(II)I" } : Jvm.MethodName) jdk_29_method_65_code (2 : Nat) (Option.some Jvm.ClassFile.FieldType.int)).before args0 about1 = true := code_word (m := ⟨8, 1⟩) (meth := k8m1) (c := k8c1) (by decide +kernel) rfl rfl rfl (by decide +kernel)
set_option maxRecDepth 65536 in
theorem w_c7 : (Jvm.Cond.code ({ cls := "java/lang/Math", name := "min", desc := "(II)I" } : Jvm.MethodName) jdk_29_method_69_code (2 : Nat) (Option.some Jvm.ClassFile.FieldType.int)).before args0 about1 = true := code_word (m := ⟨8, 2⟩) (meth := k8m2) (c := k8c2) (by decide +kernel) rfl rfl rfl (by decide +kernel)
set_option maxRecDepth 65536 in
theorem w_c8 : (Jvm.Cond.code ({ cls := "com/example/execd/execd/io/BodyReader", name := "body", desc := "()[B" } : Jvm.MethodName) prog_6_method_8_code (1 : Nat) (Option.some (Jvm.ClassFile.FieldType.array Jvm.ClassFile.FieldType.byte))).before args0 about1 = true := code_word (m := ⟨2, 5⟩) (meth := k2m5) (c := k2c5) (by decide +kernel) rfl rfl rfl (by decide +kernel)
set_option maxRecDepth 65536 in
theorem w_c9 : (Jvm.Cond.code ({ cls := "com/example/execd/execd/io/BodyReader", name := "grow", desc := "()V" } : Jvm.MethodName) prog_6_method_7_code (1 : Nat) (Option.none : Option Jvm.ClassFile.FieldType)).before args0 about1 = true := code_word (m := ⟨2, 4⟩) (meth := k2m4) (c := k2c4) (by decide +kernel) rfl rfl rfl (by decide +kernel)
set_option maxRecDepth 65536 in
theorem w_c10 : (Jvm.Cond.code ({ cls := "java/util/Arrays", name := "copyOf", desc := "([BI)[B" } : Jvm.MethodName) jdk_65_method_121_code (3 : Nat) (Option.some (Jvm.ClassFile.FieldType.array Jvm.ClassFile.FieldType.byte))).before args0 about1 = true := code_word (m := ⟨9, 1⟩) (meth := k9m1) (c := k9c1) (by decide +kernel) rfl rfl rfl (by decide +kernel)
def codes1 : List Jvm.Cond := [Jvm.Cond.code x code maxLocals ret, Jvm.Cond.code ({ cls := "com/example/execd/execd/io/BodyReader", name := "chunked", desc := "(I)Lcom/example/execd/execd/io/BodyReader;" } : Jvm.MethodName) prog_6_method_3_code (1 : Nat) (Option.some (Jvm.ClassFile.FieldType.object "com/example/execd/execd/io/BodyReader")), Jvm.Cond.code ({ cls := "com/example/execd/execd/io/BodyReader", name := "<init>", desc := "(ZILcom/example/execd/execd/io/BodyReader$Step;J)V" } : Jvm.MethodName) prog_6_method_1_code (6 : Nat) (Option.none : Option Jvm.ClassFile.FieldType), Jvm.Cond.code ({ cls := "java/lang/Object", name := "<init>", desc := "()V" } : Jvm.MethodName) object_method_1_code (1 : Nat) (Option.none : Option Jvm.ClassFile.FieldType), Jvm.Cond.code ({ cls := "com/example/execd/execd/io/BodyReader", name := "room", desc := "()I" } : Jvm.MethodName) prog_6_method_5_code (1 : Nat) (Option.some Jvm.ClassFile.FieldType.int), Jvm.Cond.code ({ cls := "com/example/execd/execd/io/BodyReader", name := "nextRoom", desc := "()I" } : Jvm.MethodName) prog_6_method_6_code (1 : Nat) (Option.some Jvm.ClassFile.FieldType.int), Jvm.Cond.code ({ cls := "java/lang/Math", name := "max", desc := "(II)I" } : Jvm.MethodName) jdk_29_method_65_code (2 : Nat) (Option.some Jvm.ClassFile.FieldType.int), Jvm.Cond.code ({ cls := "java/lang/Math", name := "min", desc := "(II)I" } : Jvm.MethodName) jdk_29_method_69_code (2 : Nat) (Option.some Jvm.ClassFile.FieldType.int), Jvm.Cond.code ({ cls := "com/example/execd/execd/io/BodyReader", name := "body", desc := "()[B" } : Jvm.MethodName) prog_6_method_8_code (1 : Nat) (Option.some (Jvm.ClassFile.FieldType.array Jvm.ClassFile.FieldType.byte)), Jvm.Cond.code ({ cls := "com/example/execd/execd/io/BodyReader", name := "grow", desc := "()V" } : Jvm.MethodName) prog_6_method_7_code (1 : Nat) (Option.none : Option Jvm.ClassFile.FieldType), Jvm.Cond.code ({ cls := "java/util/Arrays", name := "copyOf", desc := "([BI)[B" } : Jvm.MethodName) jdk_65_method_121_code (3 : Nat) (Option.some (Jvm.ClassFile.FieldType.array Jvm.ClassFile.FieldType.byte))]
set_option maxRecDepth 65536 in
theorem codes_eq : words1.filter isCode = codes1 := rfl
theorem w_codes : ∀ c ∈ words1.filter isCode, c.before args0 about1 = true := by
  rw [codes_eq]
  intro c hc
  simp only [codes1, List.mem_cons, List.not_mem_nil, or_false] at hc
  rcases hc with rfl | rfl | rfl | rfl | rfl | rfl | rfl | rfl | rfl | rfl | rfl
  · exact w_c0
  · exact w_c1
  · exact w_c2
  · exact w_c3
  · exact w_c4
  · exact w_c5
  · exact w_c6
  · exact w_c7
  · exact w_c8
  · exact w_c9
  · exact w_c10
set_option maxRecDepth 65536 in
theorem w_t1 : (words1.take 24).all (fun c => isCode c || c.before args0 about1) = true := by decide +kernel
set_option maxRecDepth 65536 in
theorem w_t2 : ((words1.drop 24).take 24).all (fun c => isCode c || c.before args0 about1) = true := by decide +kernel
set_option maxRecDepth 65536 in
theorem w_t3 : (((words1.drop 24).drop 24).take 24).all (fun c => isCode c || c.before args0 about1) = true := by decide +kernel
set_option maxRecDepth 65536 in
theorem w_t4 : (((words1.drop 24).drop 24).drop 24).all (fun c => isCode c || c.before args0 about1) = true := by decide +kernel
theorem w_tables : (allAtoms (Jvm.Cond.code x code maxLocals ret :: tables_1)).before args0 about1 = true := by
  rw [allAtoms_all]
  show words1.all (fun c => c.before args0 about1) = true
  refine all_split ?_ w_codes
  rw [← List.take_append_drop 24 words1, List.all_append, w_t1, ← List.take_append_drop 24 (words1.drop 24), List.all_append, w_t2, ← List.take_append_drop 24 ((words1.drop 24).drop 24), List.all_append, w_t3, w_t4]
  rfl
set_option maxRecDepth 65536 in
theorem w_case : (Jvm.Cond.and given_1 narrow_1).before args0 about1 = true := by decide +kernel
theorem w_applies : (headSpec (Jvm.Cond.code x code maxLocals ret :: tables_1) room_1).applies x e0.platform about1 = true :=
  (Spec.applies_iff w_frames).mpr ⟨w_running, w_runnable, w_alone, w_named, w_hears, w_ripe, w_room, w_tables⟩
theorem atStart : AtStart classFile x code maxLocals ret World_1 tables_1 room_1 Calls_1 rest_1 Pre_1 launch0 p0 e0 about1 theMethod args0 below0 :=
  ⟨lists_1, trivial, launch0.admits_env _ _ _, launch0.least_env, fairChoices_fair.cas, fairChoices_fair.clock, w_frames, w_args, w_heap, w_applies, trivial, trivial, w_case⟩
end start1
theorem witness_1 : WitnessClaimed_1 := ⟨start1.p0, start1.e0, start1.about1, start1.theMethod, start1.args0, start1.below0, start1.atStart⟩
end Jvm.Pilot.@@N@@
