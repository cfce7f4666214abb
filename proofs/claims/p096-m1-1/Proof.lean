import JvmDerived
import JvmDerived.Pilot.@@N@@Statement
import JvmDerived.Pilot.@@N@@Code
set_option linter.unusedVariables false
set_option linter.unusedSimpArgs false
namespace Jvm.RoadKit
open Sem ClassFile Op Lib Jvm.Stand Jvm.Free Jvm.LawKit
/-! the goal of a walk, seen from where it stands -/
def own_Go (p : Program) (e : Env) (below : List Frame) (PO : Outcome → State → Prop) (U : State) : Prop :=
  ∃ s₂ o, Steps p.tables e below U s₂ ∧ s₂.status = .running ∧ Ended s₂ below o ∧ PO o s₂
def own_PO (s : State) (Q : Option Value → Heap → List Loc → Prop) (C N : Nat) : Outcome → State → Prop :=
  fun o U' => ∃ v L, o = .returned v ∧ Q v U'.heap L ∧ FrameEnd s o U' L C N
theorem own_back {p : Program} {e : Env} {below : List Frame} {PO : Outcome → State → Prop} {U V : State} (h : own_Go p e below PO V)
    (st : ∀ t, Steps p.tables e below V t → Steps p.tables e below U t) : own_Go p e below PO U := by
  obtain ⟨t, o, h1, h2⟩ := h
  exact ⟨t, o, st t h1, h2⟩
theorem own_gen {A : Type} (x : A) (P : A → Prop) (h : ∀ c, c = x → P c) : P x := h x rfl
section New
variable {p : Program} {l : Launch} {e : Env} {R : Room} {s : State} {m : MethodId} {args : Array Value} {below : List Frame} {meth : Method} {c : Code} {T : State} {locs : List Loc} {cells slots : Nat} {h : Heap}
  {Q : Option Value → Heap → List Loc → Prop} {C N : Nat}
theorem own_end (X : Stand p l e R s m args below meth c T locs cells slots) {v : Option Value} {U : State} (hv : meth.sig.returnType = none → v = none) (eT : T.heap = h) (hk : meth.locks = false)
    (st : ∀ fs, (∀ (f : JFrame) (acts : List Action), f.method = m → f.locked = none → f.entered = [] → (doReturn e (T.setTop f) acts v).1 = T.setFrames fs) → Steps p.tables e below U (T.setFrames fs))
    (hQ : Q v h locs) (hc : cells ≤ C) (hn : slots ≤ N) : own_Go p e below (own_PO s Q C N) U := by
  obtain ⟨fs, hr, hrun, hended, hW, hsame⟩ := X.leave (v := v) hv hk
  subst eT
  exact ⟨_, _, st fs hr, hrun, hended, _, _, rfl, hQ, ⟨_, rfl⟩, hW, hsame.mono hc hn⟩
theorem own_retV (X : Stand p l e R s m args below meth c T locs cells slots) (hx : p.tables.exec = Jvm.exec) {pc : Nat} {Ls : Array Slot} (hret : meth.sig.returnType = none) (hd : decode c.code pc = .ok (.return_, 1))
    (eT : T.heap = h) (hk : meth.locks = false) (hQ : Q none h locs) (hc : cells ≤ C) (hn : slots ≤ N) : own_Go p e below (own_PO s Q C N) (T.setTop (mkF m pc Ls [])) :=
  own_end X (fun _ => rfl) eT hk (fun fs hr => X.returnOut hx hret hd hr) hQ hc hn
theorem own_retI (X : Stand p l e R s m args below meth c T locs cells slots) (hx : p.tables.exec = Jvm.exec) {pc : Nat} {Ls : Array Slot} {z : Int32} {rest : List Value} (hret : meth.sig.returnType = some .int) (hd : decode c.code pc = .ok (.ireturn, 1))
    (eT : T.heap = h) (hk : meth.locks = false) (hQ : Q (some (.int z)) h locs) (hc : cells ≤ C) (hn : slots ≤ N) : own_Go p e below (own_PO s Q C N) (T.setTop (mkF m pc Ls (.int z :: rest))) :=
  own_end X (fun q => by rw [hret] at q; cases q) eT hk (fun fs hr => retOut X hx hret rfl (Or.inl ⟨rfl, Or.inl rfl, z, rfl⟩) hd hr) hQ hc hn
theorem own_retN (X : Stand p l e R s m args below meth c T locs cells slots) (hx : p.tables.exec = Jvm.exec) {pc : Nat} {Ls : Array Slot} {z : Int32} {t : FieldType} {rest : List Value} (hret : meth.sig.returnType = some t) (hz : nar t z = z) (ht : t = .boolean ∨ t = .byte ∨ t = .char ∨ t = .short) (hd : decode c.code pc = .ok (.ireturn, 1))
    (eT : T.heap = h) (hk : meth.locks = false) (hQ : Q (some (.int z)) h locs) (hc : cells ≤ C) (hn : slots ≤ N) : own_Go p e below (own_PO s Q C N) (T.setTop (mkF m pc Ls (.int z :: rest))) :=
  own_end X (fun q => by rw [hret] at q; cases q) eT hk (fun fs hr => retN X hx (t := t) hret ht hd (by rw [hz]; exact hr)) hQ hc hn
theorem own_retJ (X : Stand p l e R s m args below meth c T locs cells slots) (hx : p.tables.exec = Jvm.exec) {pc : Nat} {Ls : Array Slot} {z : Int64} {rest : List Value} (hret : meth.sig.returnType = some .long) (hd : decode c.code pc = .ok (.lreturn, 1))
    (eT : T.heap = h) (hk : meth.locks = false) (hQ : Q (some (.long z)) h locs) (hc : cells ≤ C) (hn : slots ≤ N) : own_Go p e below (own_PO s Q C N) (T.setTop (mkF m pc Ls (.long z :: rest))) :=
  own_end X (fun q => by rw [hret] at q; cases q) eT hk (fun fs hr => retOut X hx hret rfl (Or.inr (Or.inl ⟨rfl, rfl, z, rfl⟩)) hd hr) hQ hc hn
theorem own_retD (X : Stand p l e R s m args below meth c T locs cells slots) (hx : p.tables.exec = Jvm.exec) {pc : Nat} {Ls : Array Slot} {z : UInt64} {rest : List Value} (hret : meth.sig.returnType = some .double) (hd : decode c.code pc = .ok (.dreturn, 1))
    (eT : T.heap = h) (hk : meth.locks = false) (hQ : Q (some (.double z)) h locs) (hc : cells ≤ C) (hn : slots ≤ N) : own_Go p e below (own_PO s Q C N) (T.setTop (mkF m pc Ls (.double z :: rest))) :=
  own_end X (fun q => by rw [hret] at q; cases q) eT hk (fun fs hr => retOut X hx hret rfl (Or.inr (Or.inr (Or.inl ⟨rfl, rfl, z, rfl⟩))) hd hr) hQ hc hn
theorem own_retA (X : Stand p l e R s m args below meth c T locs cells slots) (hx : p.tables.exec = Jvm.exec) {pc : Nat} {Ls : Array Slot} {w : Value} {t : FieldType} {rest : List Value} (hret : meth.sig.returnType = some t) (ht : t.isReference = true) (hw : w.isRef = true) (hd : decode c.code pc = .ok (.areturn, 1))
    (eT : T.heap = h) (hk : meth.locks = false) (hQ : Q (some w) h locs) (hc : cells ≤ C) (hn : slots ≤ N) : own_Go p e below (own_PO s Q C N) (T.setTop (mkF m pc Ls (w :: rest))) :=
  own_end X (fun q => by rw [hret] at q; cases q) eT hk (fun fs hr => retOut X hx hret (by cases t <;> first | (cases ht; done) | (cases w <;> first | (cases hw; done) | rfl)) (Or.inr (Or.inr (Or.inr (Or.inr ⟨rfl, ht, hw⟩)))) hd hr) hQ hc hn
end New
end Jvm.RoadKit
namespace Jvm.RoadKit
open Sem ClassFile Op Lib Jvm.Stand Jvm.Free Jvm.LawKit
section Heap
variable {p : Program} {l : Launch} {e : Env} {R : Room} {s : State} {m : MethodId} {args : Array Value} {below : List Frame} {meth : Method} {c : Code} {T : State} {locs : List Loc} {cells slots : Nat} {h h' : Heap} {Z : State}
  {a : Addr} {k : ClassId} {n : Int32} {vs : List Value} {dv : Value} {ws ws' : List Addr} {C : String}
theorem own_keep_more (K : Keep h h' ws) (q : ∀ x ∈ ws, x ∈ ws') : Keep h h' ws' := ⟨K.1, fun x c hx r => K.2.1 x c hx fun z => r (q x z), K.2.2⟩
theorem own_sta_keep {C n d : String} {v : Value} (F : Sta Z h C n d v) (K : Keep h h' ws) (q : ∀ x ∈ ws, ∀ cell : Cell, h[x]? = some cell → cell.vm.isStatics = false) : Sta Z h' C n d v := by
  obtain ⟨cf, i, kk, f, st, cell, h1, h2, h3, h4, h5, h6, h7⟩ := F
  exact ⟨cf, i, kk, f, st, cell, h1, h2, h3, h4, K.2.1 st cell h5 (fun z => by rw [q st z cell h5] at h6; cases h6), h6, h7⟩
/-- a private method is selected of itself: the class is no interface, as another 'selects' word says -/
theorem own_selpriv {s : State} {args args' : Array Value} {y z w : MethodName} (hs : (Cond.selects y.cls z w).before args' s = true) (hpriv : s.PrivateAt y) (hinst : (Cond.instanceMethod y).before args s = true) (hy : y.cls ≠ "java/lang/invoke/MethodHandle" ∧ y.cls ≠ "java/lang/invoke/VarHandle") (hw : w.cls = y.cls := by rfl) :
    (Cond.selects y.cls y y).before args s = true := by
  obtain ⟨c2, r2, m2, q1, q2, q3, q4, kP, hkP, hkPi⟩ := Cond.selects_spec hs
  have hc := findClass_of_methodNamed q3
  rw [hw] at hc
  exact selects_self_of_private hc hkP hkPi hpriv hinst hy
theorem own_stI (X : Stand p l e R s m args below meth c T locs cells slots) (hx : p.tables.exec = Jvm.exec) (hZ : Z.Warmed39 s.vm) (eT : T.heap = h) (A : Arv Z h a k .int n vs dv) {j x : Int32} (hj : ¬ j < 0 ∧ j < n) {i : Nat} (hi : j.toNatClampNeg = i) (hl : i < vs.length) {g : JFrame} (hg : g.method = m) {rest : List Value} (hs : g.stack = .int x :: .int j :: .ref a :: rest) (hd : decode c.code g.pc = .ok (.iastore, 1)) :
    ∃ T' h', Stand p l e R s m args below meth c T' (locs ++ [⟨a, j.toNatClampNeg⟩]) cells slots ∧ T'.heap = h' ∧ Wr h h' a j.toNatClampNeg (.int x) ∧ Arv Z h' a k .int n (vs.set i (.int x)) dv ∧ ∀ target, Steps p.tables e below (T'.setTop { g with pc := g.pc + 1, stack := rest }) target → Steps p.tables e below (T.setTop g) target := by
  obtain ⟨cl, Ar, q, S, N, H, G⟩ := A
  obtain ⟨T', h', X', e', W, st⟩ := stI X hx hZ eT Ar (inb_of S hj) hg hs hd
  exact ⟨T', h', X', e', W, Arv.set Ar q S N H G rfl W i hi hl, st⟩
theorem own_stJ (X : Stand p l e R s m args below meth c T locs cells slots) (hx : p.tables.exec = Jvm.exec) (hZ : Z.Warmed39 s.vm) (eT : T.heap = h) (A : Arv Z h a k .long n vs dv) {j : Int32} {x : Int64} (hj : ¬ j < 0 ∧ j < n) {i : Nat} (hi : j.toNatClampNeg = i) (hl : i < vs.length) {g : JFrame} (hg : g.method = m) {rest : List Value} (hs : g.stack = .long x :: .int j :: .ref a :: rest) (hd : decode c.code g.pc = .ok (.lastore, 1)) :
    ∃ T' h', Stand p l e R s m args below meth c T' (locs ++ [⟨a, j.toNatClampNeg⟩]) cells slots ∧ T'.heap = h' ∧ Wr h h' a j.toNatClampNeg (.long x) ∧ Arv Z h' a k .long n (vs.set i (.long x)) dv ∧ ∀ target, Steps p.tables e below (T'.setTop { g with pc := g.pc + 1, stack := rest }) target → Steps p.tables e below (T.setTop g) target := by
  obtain ⟨cl, Ar, q, S, N, H, G⟩ := A
  obtain ⟨T', h', X', e', W, st⟩ := stJ X hx hZ eT Ar (inb_of S hj) hg hs hd
  exact ⟨T', h', X', e', W, Arv.set Ar q S N H G rfl W i hi hl, st⟩
theorem own_stD (X : Stand p l e R s m args below meth c T locs cells slots) (hx : p.tables.exec = Jvm.exec) (hZ : Z.Warmed39 s.vm) (eT : T.heap = h) (A : Arv Z h a k .double n vs dv) {j : Int32} {x : UInt64} (hj : ¬ j < 0 ∧ j < n) {i : Nat} (hi : j.toNatClampNeg = i) (hl : i < vs.length) {g : JFrame} (hg : g.method = m) {rest : List Value} (hs : g.stack = .double x :: .int j :: .ref a :: rest) (hd : decode c.code g.pc = .ok (.dastore, 1)) :
    ∃ T' h', Stand p l e R s m args below meth c T' (locs ++ [⟨a, j.toNatClampNeg⟩]) cells slots ∧ T'.heap = h' ∧ Wr h h' a j.toNatClampNeg (.double x) ∧ Arv Z h' a k .double n (vs.set i (.double x)) dv ∧ ∀ target, Steps p.tables e below (T'.setTop { g with pc := g.pc + 1, stack := rest }) target → Steps p.tables e below (T.setTop g) target := by
  obtain ⟨cl, Ar, q, S, N, H, G⟩ := A
  obtain ⟨T', h', X', e', W, st⟩ := stD X hx hZ eT Ar (inb_of S hj) hg hs hd
  exact ⟨T', h', X', e', W, Arv.set Ar q S N H G rfl W i hi hl, st⟩
theorem own_stB (X : Stand p l e R s m args below meth c T locs cells slots) (hx : p.tables.exec = Jvm.exec) (hZ : Z.Warmed39 s.vm) (eT : T.heap = h) (A : Arv Z h a k .byte n vs dv) {j x : Int32} (hj : ¬ j < 0 ∧ j < n) {i : Nat} (hi : j.toNatClampNeg = i) (hl : i < vs.length) {g : JFrame} (hg : g.method = m) {rest : List Value} (hs : g.stack = .int x :: .int j :: .ref a :: rest) (hd : decode c.code g.pc = .ok (.bastore, 1)) :
    ∃ T' h', Stand p l e R s m args below meth c T' (locs ++ [⟨a, j.toNatClampNeg⟩]) cells slots ∧ T'.heap = h' ∧ Wr h h' a j.toNatClampNeg (.int (nar .byte x)) ∧ Arv Z h' a k .byte n (vs.set i (.int (nar .byte x))) dv ∧ ∀ target, Steps p.tables e below (T'.setTop { g with pc := g.pc + 1, stack := rest }) target → Steps p.tables e below (T.setTop g) target := by
  obtain ⟨cl, Ar, q, S, N, H, G⟩ := A
  obtain ⟨T', h', X', e', W, st⟩ := stB X hx hZ eT Ar (inb_of S hj) hg hs hd
  exact ⟨T', h', X', e', W, Arv.set Ar q S N H G (fits_nar_byte x) W i hi hl, st⟩
theorem own_stZ (X : Stand p l e R s m args below meth c T locs cells slots) (hx : p.tables.exec = Jvm.exec) (hZ : Z.Warmed39 s.vm) (eT : T.heap = h) (A : Arv Z h a k .boolean n vs dv) {j x : Int32} (hj : ¬ j < 0 ∧ j < n) {i : Nat} (hi : j.toNatClampNeg = i) (hl : i < vs.length) {g : JFrame} (hg : g.method = m) {rest : List Value} (hs : g.stack = .int x :: .int j :: .ref a :: rest) (hd : decode c.code g.pc = .ok (.bastore, 1)) :
    ∃ T' h', Stand p l e R s m args below meth c T' (locs ++ [⟨a, j.toNatClampNeg⟩]) cells slots ∧ T'.heap = h' ∧ Wr h h' a j.toNatClampNeg (.int (nar .boolean x)) ∧ Arv Z h' a k .boolean n (vs.set i (.int (nar .boolean x))) dv ∧ ∀ target, Steps p.tables e below (T'.setTop { g with pc := g.pc + 1, stack := rest }) target → Steps p.tables e below (T.setTop g) target := by
  obtain ⟨cl, Ar, q, S, N, H, G⟩ := A
  obtain ⟨T', h', X', e', W, st⟩ := stZ X hx hZ eT Ar (inb_of S hj) hg hs hd
  exact ⟨T', h', X', e', W, Arv.set Ar q S N H G (fits_nar_bool x) W i hi hl, st⟩
theorem own_stC (X : Stand p l e R s m args below meth c T locs cells slots) (hx : p.tables.exec = Jvm.exec) (hZ : Z.Warmed39 s.vm) (eT : T.heap = h) (A : Arv Z h a k .char n vs dv) {j x : Int32} (hj : ¬ j < 0 ∧ j < n) {i : Nat} (hi : j.toNatClampNeg = i) (hl : i < vs.length) {g : JFrame} (hg : g.method = m) {rest : List Value} (hs : g.stack = .int x :: .int j :: .ref a :: rest) (hd : decode c.code g.pc = .ok (.castore, 1)) :
    ∃ T' h', Stand p l e R s m args below meth c T' (locs ++ [⟨a, j.toNatClampNeg⟩]) cells slots ∧ T'.heap = h' ∧ Wr h h' a j.toNatClampNeg (.int (nar .char x)) ∧ Arv Z h' a k .char n (vs.set i (.int (nar .char x))) dv ∧ ∀ target, Steps p.tables e below (T'.setTop { g with pc := g.pc + 1, stack := rest }) target → Steps p.tables e below (T.setTop g) target := by
  obtain ⟨cl, Ar, q, S, N, H, G⟩ := A
  obtain ⟨T', h', X', e', W, st⟩ := stC X hx hZ eT Ar (inb_of S hj) hg hs hd
  exact ⟨T', h', X', e', W, Arv.set Ar q S N H G (fits_nar_char x) W i hi hl, st⟩
theorem own_stR (X : Stand p l e R s m args below meth c T locs cells slots) (hx : p.tables.exec = Jvm.exec) (hZ : Z.Warmed39 s.vm) (eT : T.heap = h) (A : Arv Z h a k (.object C) n vs dv) (O : Ovr Z k C) {y : Addr} (I : Ins Z h y C true) {j : Int32} (hj : ¬ j < 0 ∧ j < n) {i : Nat} (hi : j.toNatClampNeg = i) (hl : i < vs.length) {g : JFrame} (hg : g.method = m) {rest : List Value} (hs : g.stack = .ref y :: .int j :: .ref a :: rest) (hd : decode c.code g.pc = .ok (.aastore, 1)) :
    ∃ T' h', Stand p l e R s m args below meth c T' (locs ++ [⟨a, j.toNatClampNeg⟩]) cells slots ∧ T'.heap = h' ∧ Wr h h' a j.toNatClampNeg (.ref y) ∧ Arv Z h' a k (.object C) n (vs.set i (.ref y)) dv ∧ ∀ target, Steps p.tables e below (T'.setTop { g with pc := g.pc + 1, stack := rest }) target → Steps p.tables e below (T.setTop g) target := by
  obtain ⟨cl, Ar, q, S, N, H, G⟩ := A
  obtain ⟨T', h', X', e', W, st⟩ := stR X hx hZ eT Ar (inb_of S hj) rfl (Sto.ofV Ar q O I) hg hs hd
  exact ⟨T', h', X', e', W, Arv.set Ar q S N H G rfl W i hi hl, st⟩
theorem own_ldI (X : Stand p l e R s m args below meth c T locs cells slots) (hx : p.tables.exec = Jvm.exec) (hZ : Z.Warmed39 s.vm) (eT : T.heap = h) (A : Arv Z h a k .int n vs dv) {j : Int32} {v : Value} (hj : ¬ j < 0 ∧ j < n) (hv : vs.getD j.toNatClampNeg dv = v) {g : JFrame} (hg : g.method = m) {rest : List Value} (hs : g.stack = .int j :: .ref a :: rest) (hd : decode c.code g.pc = .ok (.iaload, 1)) :
    ∀ target, Steps p.tables e below (T.setTop { g with pc := g.pc + 1, stack := v :: rest }) target → Steps p.tables e below (T.setTop g) target := by
  obtain ⟨cl, Ar, q, S, N, H, G⟩ := A
  exact fun t k => X.iaload hx (by rw [eT]; exact Ar.1) (State.isArrayOf_alike hZ.alike Ar.2.1) Ar.2.2 (inb_of S hj) (H.at (inb_of S hj) hv) hg hs hd t k
theorem own_ldJ (X : Stand p l e R s m args below meth c T locs cells slots) (hx : p.tables.exec = Jvm.exec) (hZ : Z.Warmed39 s.vm) (eT : T.heap = h) (A : Arv Z h a k .long n vs dv) {j : Int32} {v : Value} (hj : ¬ j < 0 ∧ j < n) (hv : vs.getD j.toNatClampNeg dv = v) {g : JFrame} (hg : g.method = m) {rest : List Value} (hs : g.stack = .int j :: .ref a :: rest) (hd : decode c.code g.pc = .ok (.laload, 1)) :
    ∀ target, Steps p.tables e below (T.setTop { g with pc := g.pc + 1, stack := v :: rest }) target → Steps p.tables e below (T.setTop g) target := by
  obtain ⟨cl, Ar, q, S, N, H, G⟩ := A
  exact fun t k => X.laload hx (by rw [eT]; exact Ar.1) (State.isArrayOf_alike hZ.alike Ar.2.1) Ar.2.2 (inb_of S hj) (H.at (inb_of S hj) hv) hg hs hd t k
theorem own_ldC (X : Stand p l e R s m args below meth c T locs cells slots) (hx : p.tables.exec = Jvm.exec) (hZ : Z.Warmed39 s.vm) (eT : T.heap = h) (A : Arv Z h a k .char n vs dv) {j : Int32} {v : Value} (hj : ¬ j < 0 ∧ j < n) (hv : vs.getD j.toNatClampNeg dv = v) {g : JFrame} (hg : g.method = m) {rest : List Value} (hs : g.stack = .int j :: .ref a :: rest) (hd : decode c.code g.pc = .ok (.caload, 1)) :
    ∀ target, Steps p.tables e below (T.setTop { g with pc := g.pc + 1, stack := v :: rest }) target → Steps p.tables e below (T.setTop g) target := by
  obtain ⟨cl, Ar, q, S, N, H, G⟩ := A
  exact fun t k => X.caload hx (by rw [eT]; exact Ar.1) (State.isArrayOf_alike hZ.alike Ar.2.1) Ar.2.2 (inb_of S hj) (H.at (inb_of S hj) hv) hg hs hd t k
theorem own_ldD (X : Stand p l e R s m args below meth c T locs cells slots) (hx : p.tables.exec = Jvm.exec) (hZ : Z.Warmed39 s.vm) (eT : T.heap = h) (A : Arv Z h a k .double n vs dv) {j : Int32} {v : Value} (hj : ¬ j < 0 ∧ j < n) (hv : vs.getD j.toNatClampNeg dv = v) {g : JFrame} (hg : g.method = m) {rest : List Value} (hs : g.stack = .int j :: .ref a :: rest) (hd : decode c.code g.pc = .ok (.daload, 1)) :
    ∀ target, Steps p.tables e below (T.setTop { g with pc := g.pc + 1, stack := v :: rest }) target → Steps p.tables e below (T.setTop g) target := by
  obtain ⟨cl, Ar, q, S, N, H, G⟩ := A
  exact fun t k => X.daload hx (by rw [eT]; exact Ar.1) (State.isArrayOf_alike hZ.alike Ar.2.1) Ar.2.2 (inb_of S hj) (H.at (inb_of S hj) hv) hg hs hd t k
theorem own_ldB (X : Stand p l e R s m args below meth c T locs cells slots) (hx : p.tables.exec = Jvm.exec) (hZ : Z.Warmed39 s.vm) (eT : T.heap = h) (A : Arv Z h a k .byte n vs dv) {j : Int32} {v : Value} (hj : ¬ j < 0 ∧ j < n) (hv : vs.getD j.toNatClampNeg dv = v) {g : JFrame} (hg : g.method = m) {rest : List Value} (hs : g.stack = .int j :: .ref a :: rest) (hd : decode c.code g.pc = .ok (.baload, 1)) :
    ∀ target, Steps p.tables e below (T.setTop { g with pc := g.pc + 1, stack := v :: rest }) target → Steps p.tables e below (T.setTop g) target := by
  obtain ⟨cl, Ar, q, S, N, H, G⟩ := A
  exact fun t k => X.baloadBytes hx (by rw [eT]; exact Ar.1) (State.isArrayOf_alike hZ.alike Ar.2.1) Ar.2.2 (inb_of S hj) (H.at (inb_of S hj) hv) hg hs hd t k
theorem own_ldR (X : Stand p l e R s m args below meth c T locs cells slots) (hx : p.tables.exec = Jvm.exec) (hZ : Z.Warmed39 s.vm) (eT : T.heap = h) {ty : FieldType} (A : Arv Z h a k ty n vs dv) (hty : ty.isReference = true) {j : Int32} {v : Value} (hj : ¬ j < 0 ∧ j < n) (hv : vs.getD j.toNatClampNeg dv = v) {g : JFrame} (hg : g.method = m) {rest : List Value} (hs : g.stack = .int j :: .ref a :: rest) (hd : decode c.code g.pc = .ok (.aaload, 1)) :
    ∀ target, Steps p.tables e below (T.setTop { g with pc := g.pc + 1, stack := v :: rest }) target → Steps p.tables e below (T.setTop g) target := by
  obtain ⟨cl, Ar, q, S, N, H, G⟩ := A
  exact fun t k => X.aaload hx (by rw [eT]; exact Ar.1) (State.isArrayOf_alike hZ.alike Ar.2.1) hty Ar.2.2 (inb_of S hj) (H.at (inb_of S hj) hv) hg hs hd t k
theorem own_len (X : Stand p l e R s m args below meth c T locs cells slots) (hx : p.tables.exec = Jvm.exec) (hZ : Z.Warmed39 s.vm) (eT : T.heap = h) {ty : FieldType} (A : Arv Z h a k ty n vs dv) {g : JFrame} (hg : g.method = m) {rest : List Value} (hs : g.stack = .ref a :: rest) (hd : decode c.code g.pc = .ok (.arraylength, 1)) :
    ∀ target, Steps p.tables e below (T.setTop { g with pc := g.pc + 1, stack := .int n :: rest }) target → Steps p.tables e below (T.setTop g) target := by
  obtain ⟨cl, Ar, q, S, N, H, G⟩ := A
  intro t kk
  refine X.arraylength hx (by rw [eT]; exact Ar.1) (State.isArrayOf_alike hZ.alike Ar.2.1) hg hs hd t ?_
  rw [len_of S N]; exact kk
end Heap
end Jvm.RoadKit
namespace Jvm.RoadKit
open Sem ClassFile Op Lib Jvm.Stand Jvm.Free Jvm.LawKit
def own_POW (s : State) (Q : Option Value → Heap → List Loc → Prop) (C N : Nat) : Outcome → State → Prop :=
  fun o U' => ∃ v L, o = .returned v ∧ Q v U'.heap L ∧ ReturnedEndW s o U' L C N
section NewW
variable {p : Program} {l : Launch} {e : Env} {R : Room} {s : State} {m : MethodId} {args : Array Value} {below : List Frame} {meth : Method} {c : Code} {T : State} {locs : List Loc} {cells slots : Nat} {h : Heap}
  {Q : Option Value → Heap → List Loc → Prop} {C N : Nat} {vm0 : Vm} {k0 : Nat}
theorem own_endW (X : Stand p l e R (s.setVm vm0) m args below meth c T locs cells slots) {v : Option Value} {U : State} (hv : meth.sig.returnType = none → v = none) (eT : T.heap = h) (hk : meth.locks = false)
    (st : ∀ fs, (∀ (f : JFrame) (acts : List Action), f.method = m → f.locked = none → f.entered = [] → (doReturn e (T.setTop f) acts v).1 = T.setFrames fs) → Steps p.tables e below U (T.setFrames fs))
    (hQ : Q v h locs) (hc : cells ≤ C) (hn : slots ≤ N) (hS : s.Since vm0 k0) (hk0 : k0 ≤ h.size) : own_Go p e below (own_POW s Q C N) U := by
  subst eT
  obtain ⟨fs, hr, hrun, hended, hW⟩ := X.leaveW hS hk0 (v := v) hv hk
  exact ⟨_, _, st fs hr, hrun, hended, _, _, rfl, hQ, hW.1, hW.2.1, hW.2.2.1, hW.2.2.2.mono hc hn⟩
theorem own_retVW (X : Stand p l e R (s.setVm vm0) m args below meth c T locs cells slots) (hx : p.tables.exec = Jvm.exec) {pc : Nat} {Ls : Array Slot} (hret : meth.sig.returnType = none) (hd : decode c.code pc = .ok (.return_, 1))
    (eT : T.heap = h) (hk : meth.locks = false) (hQ : Q none h locs) (hc : cells ≤ C) (hn : slots ≤ N) (hS : s.Since vm0 k0) (hk0 : k0 ≤ h.size) : own_Go p e below (own_POW s Q C N) (T.setTop (mkF m pc Ls [])) :=
  own_endW X (fun _ => rfl) eT hk (fun fs hr => X.returnOut hx hret hd hr) hQ hc hn hS hk0
theorem own_retIW (X : Stand p l e R (s.setVm vm0) m args below meth c T locs cells slots) (hx : p.tables.exec = Jvm.exec) {pc : Nat} {Ls : Array Slot} {z : Int32} {rest : List Value} (hret : meth.sig.returnType = some .int) (hd : decode c.code pc = .ok (.ireturn, 1))
    (eT : T.heap = h) (hk : meth.locks = false) (hQ : Q (some (.int z)) h locs) (hc : cells ≤ C) (hn : slots ≤ N) (hS : s.Since vm0 k0) (hk0 : k0 ≤ h.size) : own_Go p e below (own_POW s Q C N) (T.setTop (mkF m pc Ls (.int z :: rest))) :=
  own_endW X (fun q => by rw [hret] at q; cases q) eT hk (fun fs hr => retOut X hx hret rfl (Or.inl ⟨rfl, Or.inl rfl, z, rfl⟩) hd hr) hQ hc hn hS hk0
theorem own_retNW (X : Stand p l e R (s.setVm vm0) m args below meth c T locs cells slots) (hx : p.tables.exec = Jvm.exec) {pc : Nat} {Ls : Array Slot} {z : Int32} {t : FieldType} {rest : List Value} (hret : meth.sig.returnType = some t) (hz : nar t z = z) (ht : t = .boolean ∨ t = .byte ∨ t = .char ∨ t = .short) (hd : decode c.code pc = .ok (.ireturn, 1))
    (eT : T.heap = h) (hk : meth.locks = false) (hQ : Q (some (.int z)) h locs) (hc : cells ≤ C) (hn : slots ≤ N) (hS : s.Since vm0 k0) (hk0 : k0 ≤ h.size) : own_Go p e below (own_POW s Q C N) (T.setTop (mkF m pc Ls (.int z :: rest))) :=
  own_endW X (fun q => by rw [hret] at q; cases q) eT hk (fun fs hr => retN X hx (t := t) hret ht hd (by rw [hz]; exact hr)) hQ hc hn hS hk0
theorem own_retAW (X : Stand p l e R (s.setVm vm0) m args below meth c T locs cells slots) (hx : p.tables.exec = Jvm.exec) {pc : Nat} {Ls : Array Slot} {w : Value} {t : FieldType} {rest : List Value} (hret : meth.sig.returnType = some t) (ht : t.isReference = true) (hw : w.isRef = true) (hd : decode c.code pc = .ok (.areturn, 1))
    (eT : T.heap = h) (hk : meth.locks = false) (hQ : Q (some w) h locs) (hc : cells ≤ C) (hn : slots ≤ N) (hS : s.Since vm0 k0) (hk0 : k0 ≤ h.size) : own_Go p e below (own_POW s Q C N) (T.setTop (mkF m pc Ls (w :: rest))) :=
  own_endW X (fun q => by rw [hret] at q; cases q) eT hk (fun fs hr => retOut X hx hret (by cases t <;> first | (cases ht; done) | (cases w <;> first | (cases hw; done) | rfl)) (Or.inr (Or.inr (Or.inr (Or.inr ⟨rfl, ht, hw⟩)))) hd hr) hQ hc hn hS hk0
end NewW
end Jvm.RoadKit
namespace Jvm.RoadKit
open Sem ClassFile Op Lib Jvm.Stand Jvm.Free Jvm.LawKit
theorem own_ofNat {c : Int32} (h0 : 0 ≤ c.toInt) : c = Int32.ofNat c.toInt.toNat := by
  apply Int32.toInt_inj.mp
  show c.toInt = (Int32.ofNat c.toInt.toNat).toInt
  rw [Int32.toInt_ofNat_of_lt (by have := c.toInt_lt; omega), Int.toNat_of_nonneg h0]
theorem own_clamp {c : Int32} : c.toNatClampNeg = c.toInt.toNat := rfl
/-- a remainder of what a mask left -/
theorem own_pm (x : Int32) {y : Int32} {d : Int} (hy : y.toInt = d) (hd : 0 < d) : ((x &&& 2147483647) % y).toInt = x.toInt % 2147483648 % d ∧ 0 ≤ ((x &&& 2147483647) % y).toInt ∧ ((x &&& 2147483647) % y).toInt < d := by
  have e := c_mask x 2147483647 31 (by decide) (by decide)
  have e2 : ((2 ^ 31 : Nat) : Int) = 2147483648 := by decide
  rw [e2] at e
  have h0 : 0 ≤ (x &&& 2147483647).toInt := by rw [e]; exact Int.emod_nonneg _ (by decide)
  have q := (c_irem (x &&& 2147483647) y d hy).1 h0
  rw [e] at q
  have hd' : d ≠ 0 := by omega
  exact ⟨q, by rw [q]; exact Int.emod_nonneg _ hd', by rw [q]; exact Int.emod_lt_of_pos _ hd⟩
theorem own_r14 {x i : Int32} (h : i = (x &&& 2147483647) % 14) : i = 0 ∨ i = 1 ∨ i = 2 ∨ i = 3 ∨ i = 4 ∨ i = 5 ∨ i = 6 ∨ i = 7 ∨ i = 8 ∨ i = 9 ∨ i = 10 ∨ i = 11 ∨ i = 12 ∨ i = 13 := by
  obtain ⟨-, h1, h2⟩ := own_pm x (y := 14) (d := 14) (by decide) (by decide)
  rw [← h] at h1 h2
  have t : ∀ k : Fin 14, (Int32.ofNat k.1 = 0 ∨ Int32.ofNat k.1 = 1 ∨ Int32.ofNat k.1 = 2 ∨ Int32.ofNat k.1 = 3 ∨ Int32.ofNat k.1 = 4 ∨ Int32.ofNat k.1 = 5 ∨ Int32.ofNat k.1 = 6 ∨ Int32.ofNat k.1 = 7 ∨ Int32.ofNat k.1 = 8 ∨ Int32.ofNat k.1 = 9 ∨ Int32.ofNat k.1 = 10 ∨ Int32.ofNat k.1 = 11 ∨ Int32.ofNat k.1 = 12 ∨ Int32.ofNat k.1 = 13) := by decide +kernel
  have q := t ⟨i.toInt.toNat, by omega⟩
  rwa [← own_ofNat h1] at q
end Jvm.RoadKit
namespace Jvm.Pilot.@@N@@
open Jvm Jvm.ClassFile Sem Op Lib Jvm.Free Jvm.Stand Jvm.LawKit Jvm.RoadKit Bundle Jvm.Pilot.@@N@@.Jvm.D
theorem own_wS {Z : State} {a0 : Array Value} (hw : ∀ d ∈ tables_1, d.before a0 Z = true) : ∀ a ∈ Bundle.stringAtoms, a.before a0 Z = true := by
  intro a ha
  simp only [Bundle.stringAtoms, List.mem_cons, List.not_mem_nil, or_false] at ha
  rcases ha with rfl | rfl | rfl | rfl | rfl | rfl | rfl
  · exact (hw _ (List.mem_of_getElem? (i := 31) rfl))
  · exact (hw _ (List.mem_of_getElem? (i := 32) rfl))
  · exact (hw _ (List.mem_of_getElem? (i := 33) rfl))
  · exact (hw _ (List.mem_of_getElem? (i := 34) rfl))
  · exact (hw _ (List.mem_of_getElem? (i := 35) rfl))
  · exact (hw _ (List.mem_of_getElem? (i := 36) rfl))
  · exact (hw _ (List.mem_of_getElem? (i := 37) rfl))

def own_h1 (a q : Int32) : Int32 := if a = q then 1 else 0
def own_h2 (a b q : Int32) : Int32 := if a = q then 1 else own_h1 b q
def own_h3 (a b c q : Int32) : Int32 := if a = q then 1 else own_h2 b c q
/-- 1 to 3 -/
theorem own_ar {x i : Int32} (h : i = ((x.toUInt32 >>> ((2 : Int32) &&& 31).toUInt32).toInt32 % 3) + 1) : i = 1 ∨ i = 2 ∨ i = 3 := by
  have e := c_iushr x 2 2 (by decide) (by decide)
  have h0 : 0 ≤ ((x.toUInt32 >>> ((2 : Int32) &&& 31).toUInt32).toInt32).toInt := by rw [e]; have := rng32 x; omega
  have q := (c_irem ((x.toUInt32 >>> ((2 : Int32) &&& 31).toUInt32).toInt32) 3 3 (by decide)).1 h0
  generalize ((x.toUInt32 >>> ((2 : Int32) &&& 31).toUInt32).toInt32) = y at *
  have a := c_iadd (y % 3) 1
  have r := rng32 (y % 3 + 1)
  have e1 : (1 : Int32).toInt = 1 := by decide
  have e2 : (2 : Int32).toInt = 2 := by decide
  have e3 : (3 : Int32).toInt = 3 := by decide
  rw [← h] at a r
  have : i.toInt = 1 ∨ i.toInt = 2 ∨ i.toInt = 3 := by omega
  rcases this with t | t | t
  · exact Or.inl (Int32.toInt_inj.mp (t.trans e1.symm))
  · exact Or.inr (Or.inl (Int32.toInt_inj.mp (t.trans e2.symm)))
  · exact Or.inr (Or.inr (Int32.toInt_inj.mp (t.trans e3.symm)))
theorem d3_0 : decode jdk_29_method_28_code 0 = .ok (.iload_n 0, 1) := by decide +kernel
theorem d3_1 : decode jdk_29_method_28_code 1 = .ok (.i2l, 1) := by decide +kernel
theorem d3_2 : decode jdk_29_method_28_code 2 = .ok (.iload_n 1, 1) := by decide +kernel
theorem d3_3 : decode jdk_29_method_28_code 3 = .ok (.i2l, 1) := by decide +kernel
theorem d3_4 : decode jdk_29_method_28_code 4 = .ok (.lmul, 1) := by decide +kernel
theorem d3_5 : decode jdk_29_method_28_code 5 = .ok (.lstore_n 2, 1) := by decide +kernel
theorem d3_6 : decode jdk_29_method_28_code 6 = .ok (.lload_n 2, 1) := by decide +kernel
theorem d3_7 : decode jdk_29_method_28_code 7 = .ok (.l2i, 1) := by decide +kernel
theorem d3_8 : decode jdk_29_method_28_code 8 = .ok (.i2l, 1) := by decide +kernel
theorem d3_9 : decode jdk_29_method_28_code 9 = .ok (.lload_n 2, 1) := by decide +kernel
theorem d3_10 : decode jdk_29_method_28_code 10 = .ok (.lcmp, 1) := by decide +kernel
theorem d3_11 : decode jdk_29_method_28_code 11 = .ok (.ifCond .eq 13, 3) := by decide +kernel
theorem d3_24 : decode jdk_29_method_28_code 24 = .ok (.lload_n 2, 1) := by decide +kernel
theorem d3_25 : decode jdk_29_method_28_code 25 = .ok (.l2i, 1) := by decide +kernel
theorem d3_26 : decode jdk_29_method_28_code 26 = .ok (.ireturn, 1) := by decide +kernel
theorem ef_rmMul_1_1 (m : MethodId) (x0 : Int32) (x1 : Int32) : entryFrame m #[(.int x0), (.int x1)] 4 = mkF m 0 #[.val (.int x0), .val (.int x1), .unset, .unset] [] := by first | (simp [entryFrame, mkF, argsToLocals, Value.category]; done) | rfl
def Q_rmMul_1_1 (h0 : Heap) (n0 : Nat) (v : Option Value) (h : Heap) (L : List Loc) : Prop := v = some (.int 1) ∧ Fr n0 L ∧ h = h0
set_option maxRecDepth 65536 in
set_option maxHeartbeats 40000000 in
theorem rmMul_1_1 (l : Launch) (Z : State) (a0 : Array Value) (hw : ∀ d ∈ tables_1, d.before a0 Z = true) (ws : List Jvm.Cond)   (h0 : Heap) (n0 : Nat) (Z0 : n0 ≤ h0.size)  :
    MetFree l (⟨"java/lang/Math", "multiplyExact", "(II)I"⟩ : MethodName) (head1 (Jvm.Cond.code (⟨"java/lang/Math", "multiplyExact", "(II)I"⟩ : MethodName) jdk_29_method_28_code 4 (some .int) :: ws) ({ frames := 0, cells := 0, slots := 0, locals := 0 } : Room)) (fun a U => a = #[(.int (1 : Int32)), (.int (1 : Int32))] ∧ Z.Warmed39 U.vm ∧ U.heap = h0) (fun _ _ _ _ _ => True) (fun _ U o U' => ∃ v L, o = .returned v ∧ Q_rmMul_1_1 h0 n0 v U'.heap L ∧ FrameEnd U o U' L ({ frames := 0, cells := 0, slots := 0, locals := 0 } : Room).cells ({ frames := 0, cells := 0, slots := 0, locals := 0 } : Room).slots) := by
  refine MetFree.of_bodySF (Jvm.Free.JP.mathPlain rfl (by decide +kernel)) hisR ?_
  intro p e s m args below meth c s₁ Bd hml0 hP hK
  obtain ⟨rfl, hZ, hh⟩ := hP
  have hx := Bd.exec
  have hby := Bd.bytes
  have hml : c.maxLocals = 4 := hml0
  have hown : s.vm.findClass "java/lang/Math" = some m.cls := findClass_of_methodNamed Bd.named
  have hnm := (name_of_methodNamed Bd.named Bd.method).1
  have X0 : Stand p l e ({ frames := 0, cells := 0, slots := 0, locals := 0 } : Room) s m #[(.int (1 : Int32)), (.int (1 : Int32))] below meth c s₁ [] 0 0 := Stand.of_body Bd
  have e0 : s₁.heap = h0 := by rw [← hh, Bd.state]; rfl
  have N0 := Fr.nil n0
  let PO : Outcome → State → Prop := own_PO s (Q_rmMul_1_1 h0 n0) 0 0
  show own_Go p e below PO (s₁.setTop (entryFrame m #[(.int (1 : Int32)), (.int (1 : Int32))] 4))
  rw [ef_rmMul_1_1]
  show own_Go p e below PO (s₁.setTop (mkF m 0 #[.val (.int (1 : Int32)), .val (.int (1 : Int32)), .unset, .unset] []))
  refine own_back ?_ (fun t k => XS.iloadN X0.here hx rfl (hb hby d3_0) rfl k)
  show own_Go p e below PO (s₁.setTop (mkF m 1 #[.val (.int (1 : Int32)), .val (.int (1 : Int32)), .unset, .unset] [(.int (1 : Int32))]))
  refine own_back ?_ (fun t k => XS.i2l X0.here hx rfl (hb hby d3_1) rfl k)
  show own_Go p e below PO (s₁.setTop (mkF m 2 #[.val (.int (1 : Int32)), .val (.int (1 : Int32)), .unset, .unset] [(.long ((1 : Int32).toInt64))]))
  refine own_back ?_ (fun t k => XS.iloadN X0.here hx rfl (hb hby d3_2) rfl k)
  show own_Go p e below PO (s₁.setTop (mkF m 3 #[.val (.int (1 : Int32)), .val (.int (1 : Int32)), .unset, .unset] [(.int (1 : Int32)), (.long ((1 : Int32).toInt64))]))
  refine own_back ?_ (fun t k => XS.i2l X0.here hx rfl (hb hby d3_3) rfl k)
  show own_Go p e below PO (s₁.setTop (mkF m 4 #[.val (.int (1 : Int32)), .val (.int (1 : Int32)), .unset, .unset] [(.long ((1 : Int32).toInt64)), (.long ((1 : Int32).toInt64))]))
  refine own_back ?_ (fun t k => XS.lmul X0.here hx rfl (hb hby d3_4) rfl k)
  show own_Go p e below PO (s₁.setTop (mkF m 5 #[.val (.int (1 : Int32)), .val (.int (1 : Int32)), .unset, .unset] [(.long (((1 : Int32).toInt64) * ((1 : Int32).toInt64)))]))
  refine own_back ?_ (fun t k => XS.lstoreN X0.here hx rfl (hb hby d3_5) rfl (l' := #[.val (.int (1 : Int32)), .val (.int (1 : Int32)), .val (.long (((1 : Int32).toInt64) * ((1 : Int32).toInt64))), .second]) rfl k)
  show own_Go p e below PO (s₁.setTop (mkF m 6 #[.val (.int (1 : Int32)), .val (.int (1 : Int32)), .val (.long (((1 : Int32).toInt64) * ((1 : Int32).toInt64))), .second] []))
  refine own_back ?_ (fun t k => XS.lloadN X0.here hx rfl (hb hby d3_6) rfl k)
  show own_Go p e below PO (s₁.setTop (mkF m 7 #[.val (.int (1 : Int32)), .val (.int (1 : Int32)), .val (.long (((1 : Int32).toInt64) * ((1 : Int32).toInt64))), .second] [(.long (((1 : Int32).toInt64) * ((1 : Int32).toInt64)))]))
  refine own_back ?_ (fun t k => XS.l2i X0.here hx rfl (hb hby d3_7) rfl k)
  show own_Go p e below PO (s₁.setTop (mkF m 8 #[.val (.int (1 : Int32)), .val (.int (1 : Int32)), .val (.long (((1 : Int32).toInt64) * ((1 : Int32).toInt64))), .second] [(.int ((((1 : Int32).toInt64) * ((1 : Int32).toInt64)).toInt32))]))
  refine own_back ?_ (fun t k => XS.i2l X0.here hx rfl (hb hby d3_8) rfl k)
  show own_Go p e below PO (s₁.setTop (mkF m 9 #[.val (.int (1 : Int32)), .val (.int (1 : Int32)), .val (.long (((1 : Int32).toInt64) * ((1 : Int32).toInt64))), .second] [(.long (((((1 : Int32).toInt64) * ((1 : Int32).toInt64)).toInt32).toInt64))]))
  refine own_back ?_ (fun t k => XS.lloadN X0.here hx rfl (hb hby d3_9) rfl k)
  show own_Go p e below PO (s₁.setTop (mkF m 10 #[.val (.int (1 : Int32)), .val (.int (1 : Int32)), .val (.long (((1 : Int32).toInt64) * ((1 : Int32).toInt64))), .second] [(.long (((1 : Int32).toInt64) * ((1 : Int32).toInt64))), (.long (((((1 : Int32).toInt64) * ((1 : Int32).toInt64)).toInt32).toInt64))]))
  refine own_back ?_ (fun t k => XS.lcmp X0.here hx rfl (hb hby d3_10) rfl k)
  show own_Go p e below PO (s₁.setTop (mkF m 11 #[.val (.int (1 : Int32)), .val (.int (1 : Int32)), .val (.long (((1 : Int32).toInt64) * ((1 : Int32).toInt64))), .second] [(.int (lcmpW (((((1 : Int32).toInt64) * ((1 : Int32).toInt64)).toInt32).toInt64) (((1 : Int32).toInt64) * ((1 : Int32).toInt64))))]))
  have hd11_1 : (((((1 : Int32).toInt64) * ((1 : Int32).toInt64)).toInt32).toInt64) = (((1 : Int32).toInt64) * ((1 : Int32).toInt64)) := (by decide)
  refine own_back ?_ (fun t k => XS.ifYes X0.here hx rfl (pc0 := 11) (pc' := 24) rfl (hb hby d3_11) rfl ((if0 _ _).trans (teq ((lw_eq _ _).mpr hd11_1)).1) (by decide) (by decide) k)
  show own_Go p e below PO (s₁.setTop (mkF m 24 #[.val (.int (1 : Int32)), .val (.int (1 : Int32)), .val (.long (((1 : Int32).toInt64) * ((1 : Int32).toInt64))), .second] []))
  refine own_back ?_ (fun t k => XS.lloadN X0.here hx rfl (hb hby d3_24) rfl k)
  show own_Go p e below PO (s₁.setTop (mkF m 25 #[.val (.int (1 : Int32)), .val (.int (1 : Int32)), .val (.long (((1 : Int32).toInt64) * ((1 : Int32).toInt64))), .second] [(.long (((1 : Int32).toInt64) * ((1 : Int32).toInt64)))]))
  refine own_back ?_ (fun t k => XS.l2i X0.here hx rfl (hb hby d3_25) rfl k)
  show own_Go p e below PO (s₁.setTop (mkF m 26 #[.val (.int (1 : Int32)), .val (.int (1 : Int32)), .val (.long (((1 : Int32).toInt64) * ((1 : Int32).toInt64))), .second] [(.int ((((1 : Int32).toInt64) * ((1 : Int32).toInt64)).toInt32))]))
  refine own_retI X0 hx (rest := []) Bd.returns (hb hby d3_26) e0 (Bd.notSynchronized) ?_ (by decide) (by decide)
  exact ⟨by decide, N0, rfl⟩
theorem d4_0 : decode prog_2_method_2_code 0 = .ok (.aload_n 0, 1) := by decide +kernel
theorem d4_1 : decode prog_2_method_2_code 1 = .ok (.arraylength, 1) := by decide +kernel
theorem d4_2 : decode prog_2_method_2_code 2 = .ok (.iload_n 1, 1) := by decide +kernel
theorem d4_3 : decode prog_2_method_2_code 3 = .ok (.if_icmp .eq 20, 3) := by decide +kernel
theorem d4_23 : decode prog_2_method_2_code 23 = .ok (.aload_n 0, 1) := by decide +kernel
theorem d4_24 : decode prog_2_method_2_code 24 = .ok (.invokevirtual 59, 3) := by decide +kernel
theorem d4_27 : decode prog_2_method_2_code 27 = .ok (.checkcast 60, 3) := by decide +kernel
theorem d4_30 : decode prog_2_method_2_code 30 = .ok (.areturn, 1) := by decide +kernel
theorem pn_0 : plainName "com/example/nearbound/nearbound/dcop/Constraint" = true := by first | (simp [plainName, overriddenIn]; done) | decide +kernel
theorem ef_rmTab (m : MethodId) (x0 : Addr) (x1 : Int32) (x2 : Addr) : entryFrame m #[(.ref x0), (.int x1), (.ref x2)] 3 = mkF m 0 #[.val (.ref x0), .val (.int x1), .val (.ref x2)] [] := by first | (simp [entryFrame, mkF, argsToLocals, Value.category]; done) | rfl
def Q_rmTab (Z : State) (kR : ClassId) (u0 : UInt64) (h0 : Heap) (n0 : Nat) (v : Option Value) (h : Heap) (L : List Loc) : Prop := ∃ aN : Addr, v = some (.ref aN) ∧ Fr n0 L ∧ Keep h0 h [] ∧ h0.size ≤ aN ∧ Exa Z h aN "[D" ∧ Arv Z h aN kR .double (1 : Int32) [(.double u0)] (.double (0 : UInt64))
set_option maxRecDepth 65536 in
set_option maxHeartbeats 40000000 in
theorem rmTab (l : Launch) (Z : State) (a0 : Array Value) (hw : ∀ d ∈ tables_1, d.before a0 Z = true) (ws : List Jvm.Cond) (aR : Addr) (aM : Addr) (kR : ClassId) (u0 : UInt64) (h0 : Heap) (n0 : Nat) (Z0 : n0 ≤ h0.size) (E_R : Exa Z h0 aR "[D") (V_R : Arv Z h0 aR kR .double (1 : Int32) [(.double u0)] (.double (0 : UInt64))) :
    MetFree l (⟨"com/example/nearbound/nearbound/dcop/Constraint", "checkTable", "([DILjava/lang/String;)[D"⟩ : MethodName) (head1 (Jvm.Cond.code (⟨"com/example/nearbound/nearbound/dcop/Constraint", "checkTable", "([DILjava/lang/String;)[D"⟩ : MethodName) prog_2_method_2_code 3 (some (.array .double)) :: ws) ({ frames := 1, cells := 1, slots := 1, locals := 14 } : Room)) (fun a U => a = #[(.ref aR), (.int (1 : Int32)), (.ref aM)] ∧ Z.Warmed39 U.vm ∧ U.heap = h0) (fun _ _ _ _ _ => True) (fun _ U o U' => ∃ v L, o = .returned v ∧ Q_rmTab Z kR u0 h0 n0 v U'.heap L ∧ FrameEnd U o U' L ({ frames := 1, cells := 1, slots := 1, locals := 14 } : Room).cells ({ frames := 1, cells := 1, slots := 1, locals := 14 } : Room).slots) := by
  refine MetFree.of_bodySF (plainFor_of_name pn_0) hisR ?_
  intro p e s m args below meth c s₁ Bd hml0 hP hK
  obtain ⟨rfl, hZ, hh⟩ := hP
  have hx := Bd.exec
  have hby := Bd.bytes
  have hml : c.maxLocals = 3 := hml0
  have hown : s.vm.findClass "com/example/nearbound/nearbound/dcop/Constraint" = some m.cls := findClass_of_methodNamed Bd.named
  have hnm := (name_of_methodNamed Bd.named Bd.method).1
  have X0 : Stand p l e ({ frames := 1, cells := 1, slots := 1, locals := 14 } : Room) s m #[(.ref aR), (.int (1 : Int32)), (.ref aM)] below meth c s₁ [] 0 0 := Stand.of_body Bd
  have e0 : s₁.heap = h0 := by rw [← hh, Bd.state]; rfl
  have N0 := Fr.nil n0
  let PO : Outcome → State → Prop := own_PO s (Q_rmTab Z kR u0 h0 n0) 1 1
  show own_Go p e below PO (s₁.setTop (entryFrame m #[(.ref aR), (.int (1 : Int32)), (.ref aM)] 3))
  rw [ef_rmTab]
  show own_Go p e below PO (s₁.setTop (mkF m 0 #[.val (.ref aR), .val (.int (1 : Int32)), .val (.ref aM)] []))
  refine own_back ?_ (fun t k => XS.aloadN X0.here hx rfl (hb hby d4_0) rfl rfl k)
  show own_Go p e below PO (s₁.setTop (mkF m 1 #[.val (.ref aR), .val (.int (1 : Int32)), .val (.ref aM)] [(.ref aR)]))
  refine own_back ?_ (own_len X0 hx hZ e0 V_R (g := (mkF m 1 #[.val (.ref aR), .val (.int (1 : Int32)), .val (.ref aM)] [(.ref aR)])) rfl rfl (hb hby d4_1))
  show own_Go p e below PO (s₁.setTop (mkF m 2 #[.val (.ref aR), .val (.int (1 : Int32)), .val (.ref aM)] [(.int (1 : Int32))]))
  refine own_back ?_ (fun t k => XS.iloadN X0.here hx rfl (hb hby d4_2) rfl k)
  show own_Go p e below PO (s₁.setTop (mkF m 3 #[.val (.ref aR), .val (.int (1 : Int32)), .val (.ref aM)] [(.int (1 : Int32)), (.int (1 : Int32))]))
  refine own_back ?_ (fun t k => XS.icmpYes X0.here hx rfl (pc0 := 3) (pc' := 23) rfl (hb hby d4_3) rfl (teq rfl).1 (by decide) (by decide) k)
  show own_Go p e below PO (s₁.setTop (mkF m 23 #[.val (.ref aR), .val (.int (1 : Int32)), .val (.ref aM)] []))
  refine own_back ?_ (fun t k => XS.aloadN X0.here hx rfl (hb hby d4_23) rfl rfl k)
  show own_Go p e below PO (s₁.setTop (mkF m 24 #[.val (.ref aR), .val (.int (1 : Int32)), .val (.ref aM)] [(.ref aR)]))
  obtain ⟨T1, h1, X1, e1, E1, A1, Ex1, st1⟩ := cloneH X0 hx hZ hown (hw _ (List.mem_of_getElem? (i := 41) rfl)) (hw _ (List.mem_of_getElem? (i := 42) rfl)) (hw _ (List.mem_of_getElem? (i := 16) rfl)) (hw _ (List.mem_of_getElem? (i := 14) rfl)) (hw _ (List.mem_of_getElem? (i := 43) rfl)) (hw _ (List.mem_of_getElem? (i := 44) rfl)) e0 (V_R).arh E_R (g := (mkF m 24 #[.val (.ref aR), .val (.int (1 : Int32)), .val (.ref aM)] [(.ref aR)])) rfl (by rw [hml]; rfl) rfl (hb hby d4_24) (by decide) (W := 0) (by show 2 * 0 + _ ≤ _; exact Nat.le_of_eq rfl) (by decide) (cap := 1) (by decide) (by decide) (by decide)
  obtain ⟨b1, g1⟩ : ∃ z, z = h0.size := ⟨_, rfl⟩
  rw [← g1] at A1 Ex1 st1
  have ne_aR_b1 : aR ≠ b1 := Nat.ne_of_lt (Nat.lt_of_lt_of_le V_R.lt (Nat.le_of_eq g1.symm))
  have sz_b1 : h0.size ≤ b1 := Nat.le_of_eq g1.symm
  have gn_b1 : n0 ≤ b1 := Nat.le_trans Z0 sz_b1
  have K1 : Keep h0 h1 [] := (Keep.refl h0 []).ext E1
  have Zh1 : n0 ≤ h1.size := Nat.le_trans Z0 K1.1
  have V1 : Arv Z h1 b1 kR .double (1 : Int32) [(.double u0)] (.double (0 : UInt64)) := A1
  refine own_back ?_ st1
  show own_Go p e below PO (T1.setTop (mkF m 27 #[.val (.ref aR), .val (.int (1 : Int32)), .val (.ref aM)] [(.ref b1)]))
  obtain ⟨T2, X2, e2, st2⟩ := castY X1 hx hZ hown (hw _ (List.mem_of_getElem? (i := 45) rfl)) e1 (Ins.self Ex1) (g := (mkF m 27 #[.val (.ref aR), .val (.int (1 : Int32)), .val (.ref aM)] [(.ref b1)])) rfl rfl (hb hby d4_27)
  refine own_back ?_ st2
  show own_Go p e below PO (T2.setTop (mkF m 30 #[.val (.ref aR), .val (.int (1 : Int32)), .val (.ref aM)] [(.ref b1)]))
  refine own_retA X2 hx (w := (.ref b1)) (rest := []) Bd.returns rfl rfl (hb hby d4_30) e2 (Bd.notSynchronized) ?_ (by decide) (by decide)
  exact ⟨b1, rfl, N0, K1, sz_b1, Ex1, V1⟩
theorem pd_0 : parseMethodDescriptor "(II)I" = some ⟨[.int, .int], some .int⟩ := by decide +kernel
theorem pd_1 : parseMethodDescriptor "([DILjava/lang/String;)[D" = some ⟨[(.array .double), .int, (.object "java/lang/String")], some (.array .double)⟩ := by decide +kernel
theorem d1_0 : decode prog_2_method_1_code 0 = .ok (.aload_n 0, 1) := by decide +kernel
theorem d1_1 : decode prog_2_method_1_code 1 = .ok (.invokespecial 3, 3) := by decide +kernel
theorem d1_4 : decode prog_2_method_1_code 4 = .ok (.aload_n 1, 1) := by decide +kernel
theorem d1_5 : decode prog_2_method_1_code 5 = .ok (.arraylength, 1) := by decide +kernel
theorem d1_6 : decode prog_2_method_1_code 6 = .ok (.ifCond .eq 10, 3) := by decide +kernel
theorem d1_9 : decode prog_2_method_1_code 9 = .ok (.aload_n 1, 1) := by decide +kernel
theorem d1_10 : decode prog_2_method_1_code 10 = .ok (.arraylength, 1) := by decide +kernel
theorem d1_11 : decode prog_2_method_1_code 11 = .ok (.aload_n 2, 1) := by decide +kernel
theorem d1_12 : decode prog_2_method_1_code 12 = .ok (.arraylength, 1) := by decide +kernel
theorem d1_13 : decode prog_2_method_1_code 13 = .ok (.if_icmp .eq 13, 3) := by decide +kernel
theorem d1_26 : decode prog_2_method_1_code 26 = .ok (.aload_n 0, 1) := by decide +kernel
theorem d1_27 : decode prog_2_method_1_code 27 = .ok (.aload_n 1, 1) := by decide +kernel
theorem d1_28 : decode prog_2_method_1_code 28 = .ok (.invokevirtual 16, 3) := by decide +kernel
theorem d1_31 : decode prog_2_method_1_code 31 = .ok (.checkcast 17, 3) := by decide +kernel
theorem d1_34 : decode prog_2_method_1_code 34 = .ok (.putfield 22, 3) := by decide +kernel
theorem d1_37 : decode prog_2_method_1_code 37 = .ok (.aload_n 0, 1) := by decide +kernel
theorem d1_38 : decode prog_2_method_1_code 38 = .ok (.aload_n 2, 1) := by decide +kernel
theorem d1_39 : decode prog_2_method_1_code 39 = .ok (.invokevirtual 16, 3) := by decide +kernel
theorem d1_42 : decode prog_2_method_1_code 42 = .ok (.checkcast 17, 3) := by decide +kernel
theorem d1_45 : decode prog_2_method_1_code 45 = .ok (.putfield 27, 3) := by decide +kernel
theorem d1_48 : decode prog_2_method_1_code 48 = .ok (.aload_n 0, 1) := by decide +kernel
theorem d1_49 : decode prog_2_method_1_code 49 = .ok (.aload_n 1, 1) := by decide +kernel
theorem d1_50 : decode prog_2_method_1_code 50 = .ok (.arraylength, 1) := by decide +kernel
theorem d1_51 : decode prog_2_method_1_code 51 = .ok (.newarray .int, 2) := by decide +kernel
theorem d1_53 : decode prog_2_method_1_code 53 = .ok (.putfield 30, 3) := by decide +kernel
theorem d1_56 : decode prog_2_method_1_code 56 = .ok (.iconst 1, 1) := by decide +kernel
theorem d1_57 : decode prog_2_method_1_code 57 = .ok (.istore 5, 2) := by decide +kernel
theorem d1_59 : decode prog_2_method_1_code 59 = .ok (.aload_n 1, 1) := by decide +kernel
theorem d1_60 : decode prog_2_method_1_code 60 = .ok (.arraylength, 1) := by decide +kernel
theorem d1_61 : decode prog_2_method_1_code 61 = .ok (.iconst 1, 1) := by decide +kernel
theorem d1_62 : decode prog_2_method_1_code 62 = .ok (.isub, 1) := by decide +kernel
theorem d1_63 : decode prog_2_method_1_code 63 = .ok (.istore 6, 2) := by decide +kernel
theorem d1_65 : decode prog_2_method_1_code 65 = .ok (.iload 6, 2) := by decide +kernel
theorem d1_67 : decode prog_2_method_1_code 67 = .ok (.ifCond .lt 29, 3) := by decide +kernel
theorem d1_70 : decode prog_2_method_1_code 70 = .ok (.aload_n 0, 1) := by decide +kernel
theorem d1_71 : decode prog_2_method_1_code 71 = .ok (.getfield 30, 3) := by decide +kernel
theorem d1_74 : decode prog_2_method_1_code 74 = .ok (.iload 6, 2) := by decide +kernel
theorem d1_76 : decode prog_2_method_1_code 76 = .ok (.iload 5, 2) := by decide +kernel
theorem d1_78 : decode prog_2_method_1_code 78 = .ok (.iastore, 1) := by decide +kernel
theorem d1_79 : decode prog_2_method_1_code 79 = .ok (.iload 5, 2) := by decide +kernel
theorem d1_81 : decode prog_2_method_1_code 81 = .ok (.aload_n 2, 1) := by decide +kernel
theorem d1_82 : decode prog_2_method_1_code 82 = .ok (.iload 6, 2) := by decide +kernel
theorem d1_84 : decode prog_2_method_1_code 84 = .ok (.iaload, 1) := by decide +kernel
theorem d1_85 : decode prog_2_method_1_code 85 = .ok (.invokestatic 33, 3) := by decide +kernel
theorem d1_88 : decode prog_2_method_1_code 88 = .ok (.istore 5, 2) := by decide +kernel
theorem d1_90 : decode prog_2_method_1_code 90 = .ok (.iinc 6 (-1), 3) := by decide +kernel
theorem d1_93 : decode prog_2_method_1_code 93 = .ok (.goto (-28), 3) := by decide +kernel
theorem d1_96 : decode prog_2_method_1_code 96 = .ok (.aload_n 0, 1) := by decide +kernel
theorem d1_97 : decode prog_2_method_1_code 97 = .ok (.aload_n 3, 1) := by decide +kernel
theorem d1_98 : decode prog_2_method_1_code 98 = .ok (.iload 5, 2) := by decide +kernel
theorem d1_100 : decode prog_2_method_1_code 100 = .ok (.ldc 39, 2) := by decide +kernel
theorem d1_102 : decode prog_2_method_1_code 102 = .ok (.invokestatic 41, 3) := by decide +kernel
theorem d1_105 : decode prog_2_method_1_code 105 = .ok (.putfield 45, 3) := by decide +kernel
theorem d1_108 : decode prog_2_method_1_code 108 = .ok (.aload 4, 2) := by decide +kernel
theorem d1_110 : decode prog_2_method_1_code 110 = .ok (.ifnull 24, 3) := by decide +kernel
theorem d1_134 : decode prog_2_method_1_code 134 = .ok (.aload_n 0, 1) := by decide +kernel
theorem d1_135 : decode prog_2_method_1_code 135 = .ok (.aload 4, 2) := by decide +kernel
theorem d1_137 : decode prog_2_method_1_code 137 = .ok (.ifnonnull 7, 3) := by decide +kernel
theorem d1_140 : decode prog_2_method_1_code 140 = .ok (.aconst_null, 1) := by decide +kernel
theorem d1_141 : decode prog_2_method_1_code 141 = .ok (.goto 12, 3) := by decide +kernel
theorem d1_153 : decode prog_2_method_1_code 153 = .ok (.putfield 54, 3) := by decide +kernel
theorem d1_156 : decode prog_2_method_1_code 156 = .ok (.return_, 1) := by decide +kernel
theorem ef_rmI_1 (m : MethodId) (x0 : Addr) (x1 : Addr) (x2 : Addr) (x3 : Addr) : entryFrame m #[(.ref x0), (.ref x1), (.ref x2), (.ref x3), .null] 7 = mkF m 0 #[.val (.ref x0), .val (.ref x1), .val (.ref x2), .val (.ref x3), .val .null, .unset, .unset] [] := by first | (simp [entryFrame, mkF, argsToLocals, Value.category]; done) | rfl
def Q_rmI_1 (Z : State) (aT : Addr) (kA : ClassId) (xA : Int32) (h0 : Heap) (n0 : Nat) (v : Option Value) (h : Heap) (L : List Loc) : Prop := v = none ∧ Fr n0 L ∧ Keep h0 h [aT] ∧ ∃ aN : Addr, h0.size ≤ aN ∧ Fld Z h aT "com/example/nearbound/nearbound/dcop/Constraint" "scope" "[I" (.ref aN) ∧ Arv Z h aN kA .int (1 : Int32) [(.int xA)] (.int (0 : Int32))
set_option maxRecDepth 65536 in
set_option maxHeartbeats 40000000 in
theorem rmI_1 (l : Launch) (Z : State) (a0 : Array Value) (hw : ∀ d ∈ tables_1, d.before a0 Z = true) (ws : List Jvm.Cond) (aT : Addr) (aA : Addr) (aB : Addr) (aR : Addr) (kA kB kR : ClassId) (xA : Int32) (u0 : UInt64) (h0 : Heap) (n0 : Nat) (Z0 : n0 ≤ h0.size) (E_T : Exa Z h0 aT "com/example/nearbound/nearbound/dcop/Constraint") (F_scope : Fld Z h0 aT "com/example/nearbound/nearbound/dcop/Constraint" "scope" "[I" .null) (F_sizes : Fld Z h0 aT "com/example/nearbound/nearbound/dcop/Constraint" "sizes" "[I" .null) (F_strides : Fld Z h0 aT "com/example/nearbound/nearbound/dcop/Constraint" "strides" "[I" .null) (F_rewards : Fld Z h0 aT "com/example/nearbound/nearbound/dcop/Constraint" "rewards" "[D" .null) (F_costs : Fld Z h0 aT "com/example/nearbound/nearbound/dcop/Constraint" "costs" "[D" .null) (E_A : Exa Z h0 aA "[I") (V_A : Arv Z h0 aA kA .int (1 : Int32) [(.int xA)] (.int (0 : Int32))) (E_B : Exa Z h0 aB "[I") (V_B : Arv Z h0 aB kB .int (1 : Int32) [(.int (1 : Int32))] (.int (0 : Int32))) (E_R : Exa Z h0 aR "[D") (V_R : Arv Z h0 aR kR .double (1 : Int32) [(.double u0)] (.double (0 : UInt64))) (nA : aA ≠ aT) (nB : aB ≠ aT) (nR : aR ≠ aT) (gn_aT : n0 ≤ aT) :
    MetFree l (⟨"com/example/nearbound/nearbound/dcop/Constraint", "<init>", "([I[I[D[D)V"⟩ : MethodName) (head1 (Jvm.Cond.code (⟨"com/example/nearbound/nearbound/dcop/Constraint", "<init>", "([I[I[D[D)V"⟩ : MethodName) prog_2_method_1_code 7 none :: ws) ({ frames := 2, cells := 6, slots := 36, locals := 29 } : Room)) (fun a U => a = #[(.ref aT), (.ref aA), (.ref aB), (.ref aR), .null] ∧ Z.Warmed39 U.vm ∧ U.heap = h0) (fun _ _ _ _ _ => True) (fun _ U o U' => ∃ v L, o = .returned v ∧ Q_rmI_1 Z aT kA xA h0 n0 v U'.heap L ∧ ReturnedEndW U o U' L ({ frames := 2, cells := 6, slots := 36, locals := 29 } : Room).cells ({ frames := 2, cells := 6, slots := 36, locals := 29 } : Room).slots) := by
  refine MetFree.of_bodySF (plainFor_of_name pn_0) hisR ?_
  intro p e s m args below meth c s₁ Bd hml0 hP hK
  obtain ⟨rfl, hZ, hh⟩ := hP
  have hx := Bd.exec
  have hby := Bd.bytes
  have hml : c.maxLocals = 7 := hml0
  have hown : s.vm.findClass "com/example/nearbound/nearbound/dcop/Constraint" = some m.cls := findClass_of_methodNamed Bd.named
  have hnm := (name_of_methodNamed Bd.named Bd.method).1
  have X0 : Stand p l e ({ frames := 2, cells := 6, slots := 36, locals := 29 } : Room) s m #[(.ref aT), (.ref aA), (.ref aB), (.ref aR), .null] below meth c s₁ [] 0 0 := Stand.of_body Bd
  have e0 : s₁.heap = h0 := by rw [← hh, Bd.state]; rfl
  have N0 := Fr.nil n0
  have hS0 : s.Since s.vm 0 := (State.WarmedH.refl s).since 0
  let PO : Outcome → State → Prop := own_POW s (Q_rmI_1 Z aT kA xA h0 n0) 6 36
  show own_Go p e below PO (s₁.setTop (entryFrame m #[(.ref aT), (.ref aA), (.ref aB), (.ref aR), .null] 7))
  rw [ef_rmI_1]
  show own_Go p e below PO (s₁.setTop (mkF m 0 #[.val (.ref aT), .val (.ref aA), .val (.ref aB), .val (.ref aR), .val .null, .unset, .unset] []))
  refine own_back ?_ (fun t k => XS.aloadN X0.here hx rfl (hb hby d1_0) rfl rfl k)
  show own_Go p e below PO (s₁.setTop (mkF m 1 #[.val (.ref aT), .val (.ref aA), .val (.ref aB), .val (.ref aR), .val .null, .unset, .unset] [(.ref aT)]))
  obtain ⟨T1, X1, e1, st1⟩ := initO X0 hx hZ hown (hw _ (List.mem_of_getElem? (i := 8) rfl)) (hw _ (List.mem_of_getElem? (i := 9) rfl)) (hw _ (List.mem_of_getElem? (i := 10) rfl)) e0 (g := (mkF m 1 #[.val (.ref aT), .val (.ref aA), .val (.ref aB), .val (.ref aR), .val .null, .unset, .unset] [(.ref aT)])) rfl (by rw [hml]; rfl) rfl (hb hby d1_1) (by decide) (W := 0) (by show 2 * 0 + _ ≤ _; exact Nat.le_of_eq rfl) (by decide)
  refine own_back ?_ st1
  show own_Go p e below PO (T1.setTop (mkF m 4 #[.val (.ref aT), .val (.ref aA), .val (.ref aB), .val (.ref aR), .val .null, .unset, .unset] []))
  refine own_back ?_ (fun t k => XS.aloadN X1.here hx rfl (hb hby d1_4) rfl rfl k)
  show own_Go p e below PO (T1.setTop (mkF m 5 #[.val (.ref aT), .val (.ref aA), .val (.ref aB), .val (.ref aR), .val .null, .unset, .unset] [(.ref aA)]))
  refine own_back ?_ (own_len X1 hx hZ e1 V_A (g := (mkF m 5 #[.val (.ref aT), .val (.ref aA), .val (.ref aB), .val (.ref aR), .val .null, .unset, .unset] [(.ref aA)])) rfl rfl (hb hby d1_5))
  show own_Go p e below PO (T1.setTop (mkF m 6 #[.val (.ref aT), .val (.ref aA), .val (.ref aB), .val (.ref aR), .val .null, .unset, .unset] [(.int (1 : Int32))]))
  have hd6_2 : ¬ ((1 : Int32) = (0 : Int32)) := (by decide)
  refine own_back ?_ (fun t k => XS.ifNo X1.here hx rfl (hb hby d1_6) rfl ((if0 _ _).trans (feq hd6_2).1) k)
  show own_Go p e below PO (T1.setTop (mkF m 9 #[.val (.ref aT), .val (.ref aA), .val (.ref aB), .val (.ref aR), .val .null, .unset, .unset] []))
  refine own_back ?_ (fun t k => XS.aloadN X1.here hx rfl (hb hby d1_9) rfl rfl k)
  show own_Go p e below PO (T1.setTop (mkF m 10 #[.val (.ref aT), .val (.ref aA), .val (.ref aB), .val (.ref aR), .val .null, .unset, .unset] [(.ref aA)]))
  refine own_back ?_ (own_len X1 hx hZ e1 V_A (g := (mkF m 10 #[.val (.ref aT), .val (.ref aA), .val (.ref aB), .val (.ref aR), .val .null, .unset, .unset] [(.ref aA)])) rfl rfl (hb hby d1_10))
  show own_Go p e below PO (T1.setTop (mkF m 11 #[.val (.ref aT), .val (.ref aA), .val (.ref aB), .val (.ref aR), .val .null, .unset, .unset] [(.int (1 : Int32))]))
  refine own_back ?_ (fun t k => XS.aloadN X1.here hx rfl (hb hby d1_11) rfl rfl k)
  show own_Go p e below PO (T1.setTop (mkF m 12 #[.val (.ref aT), .val (.ref aA), .val (.ref aB), .val (.ref aR), .val .null, .unset, .unset] [(.ref aB), (.int (1 : Int32))]))
  refine own_back ?_ (own_len X1 hx hZ e1 V_B (g := (mkF m 12 #[.val (.ref aT), .val (.ref aA), .val (.ref aB), .val (.ref aR), .val .null, .unset, .unset] [(.ref aB), (.int (1 : Int32))])) rfl rfl (hb hby d1_12))
  show own_Go p e below PO (T1.setTop (mkF m 13 #[.val (.ref aT), .val (.ref aA), .val (.ref aB), .val (.ref aR), .val .null, .unset, .unset] [(.int (1 : Int32)), (.int (1 : Int32))]))
  refine own_back ?_ (fun t k => XS.icmpYes X1.here hx rfl (pc0 := 13) (pc' := 26) rfl (hb hby d1_13) rfl (teq rfl).1 (by decide) (by decide) k)
  show own_Go p e below PO (T1.setTop (mkF m 26 #[.val (.ref aT), .val (.ref aA), .val (.ref aB), .val (.ref aR), .val .null, .unset, .unset] []))
  refine own_back ?_ (fun t k => XS.aloadN X1.here hx rfl (hb hby d1_26) rfl rfl k)
  show own_Go p e below PO (T1.setTop (mkF m 27 #[.val (.ref aT), .val (.ref aA), .val (.ref aB), .val (.ref aR), .val .null, .unset, .unset] [(.ref aT)]))
  refine own_back ?_ (fun t k => XS.aloadN X1.here hx rfl (hb hby d1_27) rfl rfl k)
  show own_Go p e below PO (T1.setTop (mkF m 28 #[.val (.ref aT), .val (.ref aA), .val (.ref aB), .val (.ref aR), .val .null, .unset, .unset] [(.ref aA), (.ref aT)]))
  obtain ⟨T3, h3, X3, e3, E3, A3, Ex3, st3⟩ := cloneH X1 hx hZ hown (hw _ (List.mem_of_getElem? (i := 11) rfl)) (hw _ (List.mem_of_getElem? (i := 12) rfl)) (hw _ (List.mem_of_getElem? (i := 16) rfl)) (hw _ (List.mem_of_getElem? (i := 14) rfl)) (hw _ (List.mem_of_getElem? (i := 15) rfl)) (hw _ (List.mem_of_getElem? (i := 17) rfl)) e1 (V_A).arh E_A (g := (mkF m 28 #[.val (.ref aT), .val (.ref aA), .val (.ref aB), .val (.ref aR), .val .null, .unset, .unset] [(.ref aA), (.ref aT)])) rfl (by rw [hml]; rfl) rfl (hb hby d1_28) (by decide) (W := 1) (by show 2 * 0 + _ ≤ _; exact Nat.le_of_eq rfl) (by decide) (cap := 1) (by decide) (by decide) (by decide)
  obtain ⟨b3, g3⟩ : ∃ z, z = h0.size := ⟨_, rfl⟩
  rw [← g3] at A3 Ex3 st3
  have ne_aA_b3 : aA ≠ b3 := Nat.ne_of_lt (Nat.lt_of_lt_of_le V_A.lt (Nat.le_of_eq g3.symm))
  have ne_aB_b3 : aB ≠ b3 := Nat.ne_of_lt (Nat.lt_of_lt_of_le V_B.lt (Nat.le_of_eq g3.symm))
  have ne_aR_b3 : aR ≠ b3 := Nat.ne_of_lt (Nat.lt_of_lt_of_le V_R.lt (Nat.le_of_eq g3.symm))
  have ne_aT_b3 : aT ≠ b3 := Nat.ne_of_lt (Nat.lt_of_lt_of_le E_T.lt (Nat.le_of_eq g3.symm))
  have sz_b3 : h0.size ≤ b3 := Nat.le_of_eq g3.symm
  have gn_b3 : n0 ≤ b3 := Nat.le_trans Z0 sz_b3
  have K3 : Keep h0 h3 [] := (Keep.refl h0 []).ext E3
  have Zh3 : n0 ≤ h3.size := Nat.le_trans Z0 K3.1
  have V3 : Arv Z h3 b3 kA .int (1 : Int32) [(.int xA)] (.int (0 : Int32)) := A3
  refine own_back ?_ st3
  show own_Go p e below PO (T3.setTop (mkF m 31 #[.val (.ref aT), .val (.ref aA), .val (.ref aB), .val (.ref aR), .val .null, .unset, .unset] [(.ref b3), (.ref aT)]))
  obtain ⟨T4, X4, e4, st4⟩ := castY X3 hx hZ hown (hw _ (List.mem_of_getElem? (i := 18) rfl)) e3 (Ins.self Ex3) (g := (mkF m 31 #[.val (.ref aT), .val (.ref aA), .val (.ref aB), .val (.ref aR), .val .null, .unset, .unset] [(.ref b3), (.ref aT)])) rfl rfl (hb hby d1_31)
  refine own_back ?_ st4
  show own_Go p e below PO (T4.setTop (mkF m 34 #[.val (.ref aT), .val (.ref aA), .val (.ref aB), .val (.ref aR), .val .null, .unset, .unset] [(.ref b3), (.ref aT)]))
  obtain ⟨T5, h5, X5, e5, W5, st5⟩ := putF X4 hx hZ hown (host := "") (Or.inl (hw _ (List.mem_of_getElem? (i := 20) rfl))) Via.refl e4 (F_scope.keep K3 nin0) (E_T.keep K3) (Or.inr ⟨(hw _ (List.mem_of_getElem? (i := 21) rfl)), rfl, hnm⟩) (hw _ (List.mem_of_getElem? (i := 3) rfl)) (ty := (.array .int)) (by decide) rfl rfl (g := (mkF m 34 #[.val (.ref aT), .val (.ref aA), .val (.ref aB), .val (.ref aR), .val .null, .unset, .unset] [(.ref b3), (.ref aT)])) rfl rfl (hb hby d1_34)
  have Fw5 := (F_scope.keep K3 nin0).same W5
  have f5_6 := Ex3.wr W5
  have f5_7 := V3.other W5 (Ne.symm ne_aT_b3)
  have f5_8 := (E_T.keep K3).wr W5
  have f5_9 := (F_sizes.keep K3 nin0).other W5 (Or.inr (slot_ne (Or.inr (hw _ (List.mem_of_getElem? (i := 23) rfl))) (Or.inr (hw _ (List.mem_of_getElem? (i := 21) rfl))) (by decide) (t := (.array .int)) (t' := (.array .int)) (by decide) (by decide)))
  have f5_10 := (F_strides.keep K3 nin0).other W5 (Or.inr (slot_ne (Or.inr (hw _ (List.mem_of_getElem? (i := 25) rfl))) (Or.inr (hw _ (List.mem_of_getElem? (i := 21) rfl))) (by decide) (t := (.array .int)) (t' := (.array .int)) (by decide) (by decide)))
  have f5_11 := (F_rewards.keep K3 nin0).other W5 (Or.inr (slot_ne (Or.inr (hw _ (List.mem_of_getElem? (i := 48) rfl))) (Or.inr (hw _ (List.mem_of_getElem? (i := 21) rfl))) (by decide) (t := (.array .double)) (t' := (.array .int)) (by decide) (by decide)))
  have f5_12 := (F_costs.keep K3 nin0).other W5 (Or.inr (slot_ne (Or.inr (hw _ (List.mem_of_getElem? (i := 50) rfl))) (Or.inr (hw _ (List.mem_of_getElem? (i := 21) rfl))) (by decide) (t := (.array .double)) (t' := (.array .int)) (by decide) (by decide)))
  have K5w : Keep h0 h3 [aT] := own_keep_more K3 (by simp)
  have K5 : Keep h0 h5 [aT] := (K5w).wr W5 (Or.inl (by simp))
  have N5 := Fr.snoc X5 N0 gn_aT
  have Zh5 : n0 ≤ h5.size := Nat.le_trans Z0 K5.1
  refine own_back ?_ st5
  show own_Go p e below PO (T5.setTop (mkF m 37 #[.val (.ref aT), .val (.ref aA), .val (.ref aB), .val (.ref aR), .val .null, .unset, .unset] []))
  refine own_back ?_ (fun t k => XS.aloadN X5.here hx rfl (hb hby d1_37) rfl rfl k)
  show own_Go p e below PO (T5.setTop (mkF m 38 #[.val (.ref aT), .val (.ref aA), .val (.ref aB), .val (.ref aR), .val .null, .unset, .unset] [(.ref aT)]))
  refine own_back ?_ (fun t k => XS.aloadN X5.here hx rfl (hb hby d1_38) rfl rfl k)
  show own_Go p e below PO (T5.setTop (mkF m 39 #[.val (.ref aT), .val (.ref aA), .val (.ref aB), .val (.ref aR), .val .null, .unset, .unset] [(.ref aB), (.ref aT)]))
  obtain ⟨T13, h13, X13, e13, E13, A13, Ex13, st13⟩ := cloneH X5 hx hZ hown (hw _ (List.mem_of_getElem? (i := 11) rfl)) (hw _ (List.mem_of_getElem? (i := 12) rfl)) (hw _ (List.mem_of_getElem? (i := 16) rfl)) (hw _ (List.mem_of_getElem? (i := 14) rfl)) (hw _ (List.mem_of_getElem? (i := 15) rfl)) (hw _ (List.mem_of_getElem? (i := 17) rfl)) e5 ((V_B.keep K5 (ninS nB nin0))).arh (E_B.keep K5) (g := (mkF m 39 #[.val (.ref aT), .val (.ref aA), .val (.ref aB), .val (.ref aR), .val .null, .unset, .unset] [(.ref aB), (.ref aT)])) rfl (by rw [hml]; rfl) rfl (hb hby d1_39) (by decide) (W := 1) (by show 2 * 0 + _ ≤ _; exact Nat.le_of_eq rfl) (by decide) (cap := 1) (by decide) (by decide) (by decide)
  obtain ⟨b13, g13⟩ : ∃ z, z = h5.size := ⟨_, rfl⟩
  rw [← g13] at A13 Ex13 st13
  have ne_aA_b13 : aA ≠ b13 := Nat.ne_of_lt (Nat.lt_of_lt_of_le (V_A.keep K5 (ninS nA nin0)).lt (Nat.le_of_eq g13.symm))
  have ne_aB_b13 : aB ≠ b13 := Nat.ne_of_lt (Nat.lt_of_lt_of_le (V_B.keep K5 (ninS nB nin0)).lt (Nat.le_of_eq g13.symm))
  have ne_aR_b13 : aR ≠ b13 := Nat.ne_of_lt (Nat.lt_of_lt_of_le (V_R.keep K5 (ninS nR nin0)).lt (Nat.le_of_eq g13.symm))
  have ne_aT_b13 : aT ≠ b13 := Nat.ne_of_lt (Nat.lt_of_lt_of_le f5_8.lt (Nat.le_of_eq g13.symm))
  have ne_b3_b13 : b3 ≠ b13 := Nat.ne_of_lt (Nat.lt_of_lt_of_le f5_6.lt (Nat.le_of_eq g13.symm))
  have sz_b13 : h0.size ≤ b13 := Nat.le_trans K5.1 (Nat.le_of_eq g13.symm)
  have gn_b13 : n0 ≤ b13 := Nat.le_trans Z0 sz_b13
  have f13_14 := f5_6.ext E13
  have f13_15 := f5_7.ext E13
  have f13_16 := f5_8.ext E13
  have f13_17 := Fw5.ext E13
  have f13_18 := f5_9.ext E13
  have f13_19 := f5_10.ext E13
  have f13_20 := f5_11.ext E13
  have f13_21 := f5_12.ext E13
  have K13 : Keep h0 h13 [aT] := (K5).ext E13
  have Zh13 : n0 ≤ h13.size := Nat.le_trans Z0 K13.1
  have V13 : Arv Z h13 b13 kB .int (1 : Int32) [(.int (1 : Int32))] (.int (0 : Int32)) := A13
  refine own_back ?_ st13
  show own_Go p e below PO (T13.setTop (mkF m 42 #[.val (.ref aT), .val (.ref aA), .val (.ref aB), .val (.ref aR), .val .null, .unset, .unset] [(.ref b13), (.ref aT)]))
  obtain ⟨T22, X22, e22, st22⟩ := castY X13 hx hZ hown (hw _ (List.mem_of_getElem? (i := 18) rfl)) e13 (Ins.self Ex13) (g := (mkF m 42 #[.val (.ref aT), .val (.ref aA), .val (.ref aB), .val (.ref aR), .val .null, .unset, .unset] [(.ref b13), (.ref aT)])) rfl rfl (hb hby d1_42)
  refine own_back ?_ st22
  show own_Go p e below PO (T22.setTop (mkF m 45 #[.val (.ref aT), .val (.ref aA), .val (.ref aB), .val (.ref aR), .val .null, .unset, .unset] [(.ref b13), (.ref aT)]))
  obtain ⟨T23, h23, X23, e23, W23, st23⟩ := putF X22 hx hZ hown (host := "") (Or.inl (hw _ (List.mem_of_getElem? (i := 22) rfl))) Via.refl e22 f13_18 f13_16 (Or.inr ⟨(hw _ (List.mem_of_getElem? (i := 23) rfl)), rfl, hnm⟩) (hw _ (List.mem_of_getElem? (i := 3) rfl)) (ty := (.array .int)) (by decide) rfl rfl (g := (mkF m 45 #[.val (.ref aT), .val (.ref aA), .val (.ref aB), .val (.ref aR), .val .null, .unset, .unset] [(.ref b13), (.ref aT)])) rfl rfl (hb hby d1_45)
  have Fw23 := f13_18.same W23
  have f23_24 := f13_14.wr W23
  have f23_25 := f13_15.other W23 (Ne.symm ne_aT_b3)
  have f23_26 := f13_16.wr W23
  have f23_27 := f13_17.other W23 (Or.inr (slot_ne (Or.inr (hw _ (List.mem_of_getElem? (i := 21) rfl))) (Or.inr (hw _ (List.mem_of_getElem? (i := 23) rfl))) (by decide) (t := (.array .int)) (t' := (.array .int)) (by decide) (by decide)))
  have f23_28 := f13_19.other W23 (Or.inr (slot_ne (Or.inr (hw _ (List.mem_of_getElem? (i := 25) rfl))) (Or.inr (hw _ (List.mem_of_getElem? (i := 23) rfl))) (by decide) (t := (.array .int)) (t' := (.array .int)) (by decide) (by decide)))
  have f23_29 := f13_20.other W23 (Or.inr (slot_ne (Or.inr (hw _ (List.mem_of_getElem? (i := 48) rfl))) (Or.inr (hw _ (List.mem_of_getElem? (i := 23) rfl))) (by decide) (t := (.array .double)) (t' := (.array .int)) (by decide) (by decide)))
  have f23_30 := f13_21.other W23 (Or.inr (slot_ne (Or.inr (hw _ (List.mem_of_getElem? (i := 50) rfl))) (Or.inr (hw _ (List.mem_of_getElem? (i := 23) rfl))) (by decide) (t := (.array .double)) (t' := (.array .int)) (by decide) (by decide)))
  have f23_31 := Ex13.wr W23
  have f23_32 := V13.other W23 (Ne.symm ne_aT_b13)
  have K23 : Keep h0 h23 [aT] := (K13).wr W23 (Or.inl (by simp))
  have N23 := Fr.snoc X23 N5 gn_aT
  have Zh23 : n0 ≤ h23.size := Nat.le_trans Z0 K23.1
  refine own_back ?_ st23
  show own_Go p e below PO (T23.setTop (mkF m 48 #[.val (.ref aT), .val (.ref aA), .val (.ref aB), .val (.ref aR), .val .null, .unset, .unset] []))
  refine own_back ?_ (fun t k => XS.aloadN X23.here hx rfl (hb hby d1_48) rfl rfl k)
  show own_Go p e below PO (T23.setTop (mkF m 49 #[.val (.ref aT), .val (.ref aA), .val (.ref aB), .val (.ref aR), .val .null, .unset, .unset] [(.ref aT)]))
  refine own_back ?_ (fun t k => XS.aloadN X23.here hx rfl (hb hby d1_49) rfl rfl k)
  show own_Go p e below PO (T23.setTop (mkF m 50 #[.val (.ref aT), .val (.ref aA), .val (.ref aB), .val (.ref aR), .val .null, .unset, .unset] [(.ref aA), (.ref aT)]))
  refine own_back ?_ (own_len X23 hx hZ e23 (V_A.keep K23 (ninS nA nin0)) (g := (mkF m 50 #[.val (.ref aT), .val (.ref aA), .val (.ref aB), .val (.ref aR), .val .null, .unset, .unset] [(.ref aA), (.ref aT)])) rfl rfl (hb hby d1_50))
  show own_Go p e below PO (T23.setTop (mkF m 51 #[.val (.ref aT), .val (.ref aA), .val (.ref aB), .val (.ref aR), .val .null, .unset, .unset] [(.int (1 : Int32)), (.ref aT)]))
  obtain ⟨T33, h33, k33, X33, e33, E33, A33, Ex33, st33⟩ := newPE X23 hx hZ (hw _ (List.mem_of_getElem? (i := 0) rfl)) e23 (g := (mkF m 51 #[.val (.ref aT), .val (.ref aA), .val (.ref aB), .val (.ref aR), .val .null, .unset, .unset] [(.int (1 : Int32)), (.ref aT)])) rfl (hb hby d1_51) rfl (by decide) (cap := 1) (by decide) (by decide) (by decide) (by decide) (ad := "[I") (by decide)
  obtain ⟨b33, g33⟩ : ∃ z, z = h23.size := ⟨_, rfl⟩
  rw [← g33] at A33 Ex33 st33
  have ne_aA_b33 : aA ≠ b33 := Nat.ne_of_lt (Nat.lt_of_lt_of_le (V_A.keep K23 (ninS nA nin0)).lt (Nat.le_of_eq g33.symm))
  have ne_aB_b33 : aB ≠ b33 := Nat.ne_of_lt (Nat.lt_of_lt_of_le (V_B.keep K23 (ninS nB nin0)).lt (Nat.le_of_eq g33.symm))
  have ne_aR_b33 : aR ≠ b33 := Nat.ne_of_lt (Nat.lt_of_lt_of_le (V_R.keep K23 (ninS nR nin0)).lt (Nat.le_of_eq g33.symm))
  have ne_aT_b33 : aT ≠ b33 := Nat.ne_of_lt (Nat.lt_of_lt_of_le f23_26.lt (Nat.le_of_eq g33.symm))
  have ne_b13_b33 : b13 ≠ b33 := Nat.ne_of_lt (Nat.lt_of_lt_of_le f23_31.lt (Nat.le_of_eq g33.symm))
  have ne_b3_b33 : b3 ≠ b33 := Nat.ne_of_lt (Nat.lt_of_lt_of_le f23_24.lt (Nat.le_of_eq g33.symm))
  have sz_b33 : h0.size ≤ b33 := Nat.le_trans K23.1 (Nat.le_of_eq g33.symm)
  have gn_b33 : n0 ≤ b33 := Nat.le_trans Z0 sz_b33
  have f33_34 := f23_24.ext E33
  have f33_35 := f23_25.ext E33
  have f33_36 := f23_26.ext E33
  have f33_37 := f23_27.ext E33
  have f33_38 := Fw23.ext E33
  have f33_39 := f23_28.ext E33
  have f33_40 := f23_29.ext E33
  have f33_41 := f23_30.ext E33
  have f33_42 := f23_31.ext E33
  have f33_43 := f23_32.ext E33
  have K33 : Keep h0 h33 [aT] := (K23).ext E33
  have Zh33 : n0 ≤ h33.size := Nat.le_trans Z0 K33.1
  have V33 : Arv Z h33 b33 k33 .int (1 : Int32) [(.int (0 : Int32))] (.int (0 : Int32)) := (Arv.new A33 (by decide)).pad (pad_rep [] (.int (0 : Int32)) 1)
  refine own_back ?_ st33
  show own_Go p e below PO (T33.setTop (mkF m 53 #[.val (.ref aT), .val (.ref aA), .val (.ref aB), .val (.ref aR), .val .null, .unset, .unset] [(.ref b33), (.ref aT)]))
  obtain ⟨T44, h44, X44, e44, W44, st44⟩ := putF X33 hx hZ hown (host := "") (Or.inl (hw _ (List.mem_of_getElem? (i := 24) rfl))) Via.refl e33 f33_39 f33_36 (Or.inr ⟨(hw _ (List.mem_of_getElem? (i := 25) rfl)), rfl, hnm⟩) (hw _ (List.mem_of_getElem? (i := 3) rfl)) (ty := (.array .int)) (by decide) rfl rfl (g := (mkF m 53 #[.val (.ref aT), .val (.ref aA), .val (.ref aB), .val (.ref aR), .val .null, .unset, .unset] [(.ref b33), (.ref aT)])) rfl rfl (hb hby d1_53)
  have Fw44 := f33_39.same W44
  have f44_45 := f33_34.wr W44
  have f44_46 := f33_35.other W44 (Ne.symm ne_aT_b3)
  have f44_47 := f33_36.wr W44
  have f44_48 := f33_37.other W44 (Or.inr (slot_ne (Or.inr (hw _ (List.mem_of_getElem? (i := 21) rfl))) (Or.inr (hw _ (List.mem_of_getElem? (i := 25) rfl))) (by decide) (t := (.array .int)) (t' := (.array .int)) (by decide) (by decide)))
  have f44_49 := f33_38.other W44 (Or.inr (slot_ne (Or.inr (hw _ (List.mem_of_getElem? (i := 23) rfl))) (Or.inr (hw _ (List.mem_of_getElem? (i := 25) rfl))) (by decide) (t := (.array .int)) (t' := (.array .int)) (by decide) (by decide)))
  have f44_50 := f33_40.other W44 (Or.inr (slot_ne (Or.inr (hw _ (List.mem_of_getElem? (i := 48) rfl))) (Or.inr (hw _ (List.mem_of_getElem? (i := 25) rfl))) (by decide) (t := (.array .double)) (t' := (.array .int)) (by decide) (by decide)))
  have f44_51 := f33_41.other W44 (Or.inr (slot_ne (Or.inr (hw _ (List.mem_of_getElem? (i := 50) rfl))) (Or.inr (hw _ (List.mem_of_getElem? (i := 25) rfl))) (by decide) (t := (.array .double)) (t' := (.array .int)) (by decide) (by decide)))
  have f44_52 := f33_42.wr W44
  have f44_53 := f33_43.other W44 (Ne.symm ne_aT_b13)
  have f44_54 := Ex33.wr W44
  have f44_55 := V33.other W44 (Ne.symm ne_aT_b33)
  have K44 : Keep h0 h44 [aT] := (K33).wr W44 (Or.inl (by simp))
  have N44 := Fr.snoc X44 N23 gn_aT
  have Zh44 : n0 ≤ h44.size := Nat.le_trans Z0 K44.1
  refine own_back ?_ st44
  show own_Go p e below PO (T44.setTop (mkF m 56 #[.val (.ref aT), .val (.ref aA), .val (.ref aB), .val (.ref aR), .val .null, .unset, .unset] []))
  refine own_back ?_ (fun t k => XS.iconst X44.here hx rfl (hb hby d1_56) k)
  show own_Go p e below PO (T44.setTop (mkF m 57 #[.val (.ref aT), .val (.ref aA), .val (.ref aB), .val (.ref aR), .val .null, .unset, .unset] [(.int (1 : Int32))]))
  refine own_back ?_ (fun t k => XS.istore X44.here hx rfl (hb hby d1_57) rfl (l' := #[.val (.ref aT), .val (.ref aA), .val (.ref aB), .val (.ref aR), .val .null, .val (.int (1 : Int32)), .unset]) rfl k)
  show own_Go p e below PO (T44.setTop (mkF m 59 #[.val (.ref aT), .val (.ref aA), .val (.ref aB), .val (.ref aR), .val .null, .val (.int (1 : Int32)), .unset] []))
  refine own_back ?_ (fun t k => XS.aloadN X44.here hx rfl (hb hby d1_59) rfl rfl k)
  show own_Go p e below PO (T44.setTop (mkF m 60 #[.val (.ref aT), .val (.ref aA), .val (.ref aB), .val (.ref aR), .val .null, .val (.int (1 : Int32)), .unset] [(.ref aA)]))
  refine own_back ?_ (own_len X44 hx hZ e44 (V_A.keep K44 (ninS nA nin0)) (g := (mkF m 60 #[.val (.ref aT), .val (.ref aA), .val (.ref aB), .val (.ref aR), .val .null, .val (.int (1 : Int32)), .unset] [(.ref aA)])) rfl rfl (hb hby d1_60))
  show own_Go p e below PO (T44.setTop (mkF m 61 #[.val (.ref aT), .val (.ref aA), .val (.ref aB), .val (.ref aR), .val .null, .val (.int (1 : Int32)), .unset] [(.int (1 : Int32))]))
  refine own_back ?_ (fun t k => XS.iconst X44.here hx rfl (hb hby d1_61) k)
  show own_Go p e below PO (T44.setTop (mkF m 62 #[.val (.ref aT), .val (.ref aA), .val (.ref aB), .val (.ref aR), .val .null, .val (.int (1 : Int32)), .unset] [(.int (1 : Int32)), (.int (1 : Int32))]))
  refine own_back ?_ (fun t k => XS.isub X44.here hx rfl (hb hby d1_62) rfl k)
  show own_Go p e below PO (T44.setTop (mkF m 63 #[.val (.ref aT), .val (.ref aA), .val (.ref aB), .val (.ref aR), .val .null, .val (.int (1 : Int32)), .unset] [(.int (0 : Int32))]))
  refine own_back ?_ (fun t k => XS.istore X44.here hx rfl (hb hby d1_63) rfl (l' := #[.val (.ref aT), .val (.ref aA), .val (.ref aB), .val (.ref aR), .val .null, .val (.int (1 : Int32)), .val (.int (0 : Int32))]) rfl k)
  show own_Go p e below PO (T44.setTop (mkF m 65 #[.val (.ref aT), .val (.ref aA), .val (.ref aB), .val (.ref aR), .val .null, .val (.int (1 : Int32)), .val (.int (0 : Int32))] []))
  refine own_back ?_ (fun t k => XS.iload X44.here hx rfl (hb hby d1_65) rfl k)
  show own_Go p e below PO (T44.setTop (mkF m 67 #[.val (.ref aT), .val (.ref aA), .val (.ref aB), .val (.ref aR), .val .null, .val (.int (1 : Int32)), .val (.int (0 : Int32))] [(.int (0 : Int32))]))
  refine own_back ?_ (fun t k => XS.ifNo X44.here hx rfl (hb hby d1_67) rfl ((if0 _ _).trans (flt Int32.lt_irrefl).1) k)
  show own_Go p e below PO (T44.setTop (mkF m 70 #[.val (.ref aT), .val (.ref aA), .val (.ref aB), .val (.ref aR), .val .null, .val (.int (1 : Int32)), .val (.int (0 : Int32))] []))
  refine own_back ?_ (fun t k => XS.aloadN X44.here hx rfl (hb hby d1_70) rfl rfl k)
  show own_Go p e below PO (T44.setTop (mkF m 71 #[.val (.ref aT), .val (.ref aA), .val (.ref aB), .val (.ref aR), .val .null, .val (.int (1 : Int32)), .val (.int (0 : Int32))] [(.ref aT)]))
  obtain ⟨T56, X56, e56, st56⟩ := getF X44 hx hZ hown (host := "") (Or.inl (hw _ (List.mem_of_getElem? (i := 24) rfl))) Via.refl e44 Fw44 (g := (mkF m 71 #[.val (.ref aT), .val (.ref aA), .val (.ref aB), .val (.ref aR), .val .null, .val (.int (1 : Int32)), .val (.int (0 : Int32))] [(.ref aT)])) rfl rfl (hb hby d1_71)
  refine own_back ?_ st56
  show own_Go p e below PO (T56.setTop (mkF m 74 #[.val (.ref aT), .val (.ref aA), .val (.ref aB), .val (.ref aR), .val .null, .val (.int (1 : Int32)), .val (.int (0 : Int32))] [(.ref b33)]))
  refine own_back ?_ (fun t k => XS.iload X56.here hx rfl (hb hby d1_74) rfl k)
  show own_Go p e below PO (T56.setTop (mkF m 76 #[.val (.ref aT), .val (.ref aA), .val (.ref aB), .val (.ref aR), .val .null, .val (.int (1 : Int32)), .val (.int (0 : Int32))] [(.int (0 : Int32)), (.ref b33)]))
  refine own_back ?_ (fun t k => XS.iload X56.here hx rfl (hb hby d1_76) rfl k)
  show own_Go p e below PO (T56.setTop (mkF m 78 #[.val (.ref aT), .val (.ref aA), .val (.ref aB), .val (.ref aR), .val .null, .val (.int (1 : Int32)), .val (.int (0 : Int32))] [(.int (1 : Int32)), (.int (0 : Int32)), (.ref b33)]))
  obtain ⟨T57, h57, X57, e57, W57, V57, st57⟩ := own_stI X56 hx hZ e56 f44_55 (j := (0 : Int32)) ⟨by decide, by decide⟩ (i := 0) rfl (by show 0 < 1; decide) (g := (mkF m 78 #[.val (.ref aT), .val (.ref aA), .val (.ref aB), .val (.ref aR), .val .null, .val (.int (1 : Int32)), .val (.int (0 : Int32))] [(.int (1 : Int32)), (.int (0 : Int32)), (.ref b33)])) rfl rfl (hb hby d1_78)
  replace V57 : Arv Z h57 b33 k33 .int (1 : Int32) [(.int (1 : Int32))] (.int (0 : Int32)) := V57
  have f57_58 := f44_45.wr W57
  have f57_59 := f44_46.other W57 ne_b3_b33
  have f57_60 := f44_47.wr W57
  have f57_61 := f44_48.other W57 (Or.inl ne_aT_b33)
  have f57_62 := f44_49.other W57 (Or.inl ne_aT_b33)
  have f57_63 := Fw44.other W57 (Or.inl ne_aT_b33)
  have f57_64 := f44_50.other W57 (Or.inl ne_aT_b33)
  have f57_65 := f44_51.other W57 (Or.inl ne_aT_b33)
  have f57_66 := f44_52.wr W57
  have f57_67 := f44_53.other W57 ne_b13_b33
  have f57_68 := f44_54.wr W57
  have K57 : Keep h0 h57 [aT] := (K44).wr W57 (Or.inr sz_b33)
  have N57 := Fr.snoc X57 N44 gn_b33
  have Zh57 : n0 ≤ h57.size := Nat.le_trans Z0 K57.1
  refine own_back ?_ st57
  show own_Go p e below PO (T57.setTop (mkF m 79 #[.val (.ref aT), .val (.ref aA), .val (.ref aB), .val (.ref aR), .val .null, .val (.int (1 : Int32)), .val (.int (0 : Int32))] []))
  refine own_back ?_ (fun t k => XS.iload X57.here hx rfl (hb hby d1_79) rfl k)
  show own_Go p e below PO (T57.setTop (mkF m 81 #[.val (.ref aT), .val (.ref aA), .val (.ref aB), .val (.ref aR), .val .null, .val (.int (1 : Int32)), .val (.int (0 : Int32))] [(.int (1 : Int32))]))
  refine own_back ?_ (fun t k => XS.aloadN X57.here hx rfl (hb hby d1_81) rfl rfl k)
  show own_Go p e below PO (T57.setTop (mkF m 82 #[.val (.ref aT), .val (.ref aA), .val (.ref aB), .val (.ref aR), .val .null, .val (.int (1 : Int32)), .val (.int (0 : Int32))] [(.ref aB), (.int (1 : Int32))]))
  refine own_back ?_ (fun t k => XS.iload X57.here hx rfl (hb hby d1_82) rfl k)
  show own_Go p e below PO (T57.setTop (mkF m 84 #[.val (.ref aT), .val (.ref aA), .val (.ref aB), .val (.ref aR), .val .null, .val (.int (1 : Int32)), .val (.int (0 : Int32))] [(.int (0 : Int32)), (.ref aB), (.int (1 : Int32))]))
  refine own_back ?_ (own_ldI X57 hx hZ e57 (V_B.keep K57 (ninS nB nin0)) (j := (0 : Int32)) (v := (.int (1 : Int32))) ⟨by decide, by decide⟩ rfl (g := (mkF m 84 #[.val (.ref aT), .val (.ref aA), .val (.ref aB), .val (.ref aR), .val .null, .val (.int (1 : Int32)), .val (.int (0 : Int32))] [(.int (0 : Int32)), (.ref aB), (.int (1 : Int32))])) rfl rfl (hb hby d1_84))
  show own_Go p e below PO (T57.setTop (mkF m 85 #[.val (.ref aT), .val (.ref aA), .val (.ref aB), .val (.ref aR), .val .null, .val (.int (1 : Int32)), .val (.int (0 : Int32))] [(.int (1 : Int32)), (.int (1 : Int32))]))
  obtain ⟨_, _, ⟨T69, L69, k69, n69⟩, -, X69, ⟨Lc69, hQ69, l69, y69, z69⟩, st69⟩ := Jvm.LawKit.callS X57 hx (y := (⟨"java/lang/Math", "multiplyExact", "(II)I"⟩ : MethodName)) hown (mvT hZ (hw _ (List.mem_of_getElem? (i := 26) rfl))) (mvT hZ (hw _ (List.mem_of_getElem? (i := 27) rfl))) (mvT hZ (hw _ (List.mem_of_getElem? (i := 28) rfl))) (mvT hZ (hw _ (List.mem_of_getElem? (i := 29) rfl))) (by decide) (backOf (W := 0) (rmMul_1_1 l Z a0 hw []   h57 n0 Zh57 ) hZ (hw _ (List.mem_of_getElem? (i := 29) rfl)) (hw _ (List.mem_of_getElem? (i := 28) rfl)) (by decide) (by decide)) (g := (mkF m 85 #[.val (.ref aT), .val (.ref aA), .val (.ref aB), .val (.ref aR), .val .null, .val (.int (1 : Int32)), .val (.int (0 : Int32))] [(.int (1 : Int32)), (.int (1 : Int32))])) rfl (by rw [hml]; rfl) (argsL := [(.int (1 : Int32)), (.int (1 : Int32))]) (rest := []) (lenOf pd_0 rfl) rfl (by show 2 * 0 + _ ≤ _; exact Nat.le_of_eq rfl) (hb hby d1_85) (fun _ _ => ⟨rfl, e57, (by decide : 3 + 0 ≤ _), (by decide : 3 + 0 ≤ _)⟩)
  dsimp only [Pt.U, Pt.locs, Pt.cells, Pt.slots] at X69 l69 y69 z69 st69 hQ69
  subst l69 y69 z69
  obtain ⟨rfl, N69q, e69⟩ := hQ69
  have N69 := Fr.app N57 N69q
  refine own_back ?_ st69
  show own_Go p e below PO (T69.setTop (mkF m 88 #[.val (.ref aT), .val (.ref aA), .val (.ref aB), .val (.ref aR), .val .null, .val (.int (1 : Int32)), .val (.int (0 : Int32))] [(.int (1 : Int32))]))
  refine own_back ?_ (fun t k => XS.istore X69.here hx rfl (hb hby d1_88) rfl (l' := #[.val (.ref aT), .val (.ref aA), .val (.ref aB), .val (.ref aR), .val .null, .val (.int (1 : Int32)), .val (.int (0 : Int32))]) rfl k)
  show own_Go p e below PO (T69.setTop (mkF m 90 #[.val (.ref aT), .val (.ref aA), .val (.ref aB), .val (.ref aR), .val .null, .val (.int (1 : Int32)), .val (.int (0 : Int32))] []))
  refine own_back ?_ (fun t k => XS.iinc X69.here hx rfl (hb hby d1_90) rfl (l' := #[.val (.ref aT), .val (.ref aA), .val (.ref aB), .val (.ref aR), .val .null, .val (.int (1 : Int32)), .val (.int (-1 : Int32))]) rfl k)
  show own_Go p e below PO (T69.setTop (mkF m 93 #[.val (.ref aT), .val (.ref aA), .val (.ref aB), .val (.ref aR), .val .null, .val (.int (1 : Int32)), .val (.int (-1 : Int32))] []))
  refine own_back ?_ (fun t k => XS.goto X69.here hx rfl (pc0 := 93) (pc' := 65) rfl (hb hby d1_93) (by decide) (by decide) k)
  show own_Go p e below PO (T69.setTop (mkF m 65 #[.val (.ref aT), .val (.ref aA), .val (.ref aB), .val (.ref aR), .val .null, .val (.int (1 : Int32)), .val (.int (-1 : Int32))] []))
  refine own_back ?_ (fun t k => XS.iload X69.here hx rfl (hb hby d1_65) rfl k)
  show own_Go p e below PO (T69.setTop (mkF m 67 #[.val (.ref aT), .val (.ref aA), .val (.ref aB), .val (.ref aR), .val .null, .val (.int (1 : Int32)), .val (.int (-1 : Int32))] [(.int (-1 : Int32))]))
  have hd67_70 : (-1 : Int32) < (0 : Int32) := (by decide)
  refine own_back ?_ (fun t k => XS.ifYes X69.here hx rfl (pc0 := 67) (pc' := 96) rfl (hb hby d1_67) rfl ((if0 _ _).trans (tlt hd67_70).1) (by decide) (by decide) k)
  show own_Go p e below PO (T69.setTop (mkF m 96 #[.val (.ref aT), .val (.ref aA), .val (.ref aB), .val (.ref aR), .val .null, .val (.int (1 : Int32)), .val (.int (-1 : Int32))] []))
  refine own_back ?_ (fun t k => XS.aloadN X69.here hx rfl (hb hby d1_96) rfl rfl k)
  show own_Go p e below PO (T69.setTop (mkF m 97 #[.val (.ref aT), .val (.ref aA), .val (.ref aB), .val (.ref aR), .val .null, .val (.int (1 : Int32)), .val (.int (-1 : Int32))] [(.ref aT)]))
  refine own_back ?_ (fun t k => XS.aloadN X69.here hx rfl (hb hby d1_97) rfl rfl k)
  show own_Go p e below PO (T69.setTop (mkF m 98 #[.val (.ref aT), .val (.ref aA), .val (.ref aB), .val (.ref aR), .val .null, .val (.int (1 : Int32)), .val (.int (-1 : Int32))] [(.ref aR), (.ref aT)]))
  refine own_back ?_ (fun t k => XS.iload X69.here hx rfl (hb hby d1_98) rfl k)
  show own_Go p e below PO (T69.setTop (mkF m 100 #[.val (.ref aT), .val (.ref aA), .val (.ref aB), .val (.ref aR), .val .null, .val (.int (1 : Int32)), .val (.int (-1 : Int32))] [(.int (1 : Int32)), (.ref aR), (.ref aT)]))
  obtain ⟨aS71, T71, h71, k71, X71, e71, E71, hS71, hk71, hZ, hown, st71⟩ := ldcS (s := s) (vm0 := s.vm) X69 hx hZ hown (hw _ (List.mem_of_getElem? (i := 30) rfl)) (own_wS hw) e69 hS0 (Nat.zero_le _) (g := (mkF m 100 #[.val (.ref aT), .val (.ref aA), .val (.ref aB), .val (.ref aR), .val .null, .val (.int (1 : Int32)), .val (.int (-1 : Int32))] [(.int (1 : Int32)), (.ref aR), (.ref aT)])) rfl (hb hby d1_100) (n := 28) (by decide) (by decide) (by decide) (by decide)
  have f71_72 := f57_58.ext E71
  have f71_73 := f57_59.ext E71
  have f71_74 := f57_60.ext E71
  have f71_75 := f57_61.ext E71
  have f71_76 := f57_62.ext E71
  have f71_77 := f57_63.ext E71
  have f71_78 := f57_64.ext E71
  have f71_79 := f57_65.ext E71
  have f71_80 := f57_66.ext E71
  have f71_81 := f57_67.ext E71
  have f71_82 := f57_68.ext E71
  have f71_83 := V57.ext E71
  have K71 : Keep h0 h71 [aT] := (K57).ext E71
  have Zh71 : n0 ≤ h71.size := Nat.le_trans Z0 K71.1
  refine own_back ?_ st71
  show own_Go p e below PO (T71.setTop (mkF m 102 #[.val (.ref aT), .val (.ref aA), .val (.ref aB), .val (.ref aR), .val .null, .val (.int (1 : Int32)), .val (.int (-1 : Int32))] [(.ref aS71), (.int (1 : Int32)), (.ref aR), (.ref aT)]))
  obtain ⟨_, _, ⟨T84, L84, k84, n84⟩, -, X84, ⟨Lc84, hQ84, l84, y84, z84⟩, st84⟩ := Jvm.LawKit.callS X71 hx (y := (⟨"com/example/nearbound/nearbound/dcop/Constraint", "checkTable", "([DILjava/lang/String;)[D"⟩ : MethodName)) hown (mvT hZ (hw _ (List.mem_of_getElem? (i := 38) rfl))) (mvT hZ (hw _ (List.mem_of_getElem? (i := 39) rfl))) (mvT hZ (hw _ (List.mem_of_getElem? (i := 4) rfl))) (mvT hZ (hw _ (List.mem_of_getElem? (i := 40) rfl))) (by decide) (backOf (W := 1) (rmTab l Z a0 hw [] aR aS71 kR u0 h71 n0 Zh71 (E_R.keep K71) (V_R.keep K71 (ninS nR nin0))) hZ (hw _ (List.mem_of_getElem? (i := 40) rfl)) (hw _ (List.mem_of_getElem? (i := 4) rfl)) (by decide) (by decide)) (g := (mkF m 102 #[.val (.ref aT), .val (.ref aA), .val (.ref aB), .val (.ref aR), .val .null, .val (.int (1 : Int32)), .val (.int (-1 : Int32))] [(.ref aS71), (.int (1 : Int32)), (.ref aR), (.ref aT)])) rfl (by rw [hml]; rfl) (argsL := [(.ref aR), (.int (1 : Int32)), (.ref aS71)]) (rest := [(.ref aT)]) (lenOf pd_1 rfl) rfl (by show 2 * 0 + _ ≤ _; exact Nat.le_of_eq rfl) (hb hby d1_102) (fun _ _ => ⟨rfl, e71, (by decide : 5 + 1 ≤ _), (by decide : 35 + 1 ≤ _)⟩)
  dsimp only [Pt.U, Pt.locs, Pt.cells, Pt.slots] at X84 l84 y84 z84 st84 hQ84
  subst l84 y84 z84
  obtain ⟨aN84, rfl, N84q, Kc84, sz84, EN84, VN84⟩ := hQ84
  have N84 := Fr.app N69 N84q
  have ne_aA_aN84 : aA ≠ aN84 := Nat.ne_of_lt (Nat.lt_of_lt_of_le (V_A.keep K71 (ninS nA nin0)).lt sz84)
  have ne_aB_aN84 : aB ≠ aN84 := Nat.ne_of_lt (Nat.lt_of_lt_of_le (V_B.keep K71 (ninS nB nin0)).lt sz84)
  have ne_aR_aN84 : aR ≠ aN84 := Nat.ne_of_lt (Nat.lt_of_lt_of_le (V_R.keep K71 (ninS nR nin0)).lt sz84)
  have ne_aT_aN84 : aT ≠ aN84 := Nat.ne_of_lt (Nat.lt_of_lt_of_le f71_74.lt sz84)
  have ne_b13_aN84 : b13 ≠ aN84 := Nat.ne_of_lt (Nat.lt_of_lt_of_le f71_80.lt sz84)
  have ne_b3_aN84 : b3 ≠ aN84 := Nat.ne_of_lt (Nat.lt_of_lt_of_le f71_72.lt sz84)
  have ne_b33_aN84 : b33 ≠ aN84 := Nat.ne_of_lt (Nat.lt_of_lt_of_le f71_82.lt sz84)
  have sz_aN84 : h0.size ≤ aN84 := Nat.le_trans K71.1 sz84
  have gn_aN84 : n0 ≤ aN84 := Nat.le_trans Z0 sz_aN84
  have f84_85 := f71_72.keep Kc84
  have f84_86 := f71_73.keep Kc84 nin0
  have f84_87 := f71_74.keep Kc84
  have f84_88 := f71_75.keep Kc84 nin0
  have f84_89 := f71_76.keep Kc84 nin0
  have f84_90 := f71_77.keep Kc84 nin0
  have f84_91 := f71_78.keep Kc84 nin0
  have f84_92 := f71_79.keep Kc84 nin0
  have f84_93 := f71_80.keep Kc84
  have f84_94 := f71_81.keep Kc84 nin0
  have f84_95 := f71_82.keep Kc84
  have f84_96 := f71_83.keep Kc84 nin0
  have K84 : Keep h0 T84.heap [aT] := (K71).trans Kc84 all0
  have Zh84 : n0 ≤ T84.heap.size := Nat.le_trans Z0 K84.1
  have hk84 := Nat.le_trans hk71 Kc84.1
  refine own_back ?_ st84
  show own_Go p e below PO (T84.setTop (mkF m 105 #[.val (.ref aT), .val (.ref aA), .val (.ref aB), .val (.ref aR), .val .null, .val (.int (1 : Int32)), .val (.int (-1 : Int32))] [(.ref aN84), (.ref aT)]))
  obtain ⟨T97, h97, X97, e97, W97, st97⟩ := putF X84 hx hZ hown (host := "") (Or.inl (hw _ (List.mem_of_getElem? (i := 47) rfl))) Via.refl rfl f84_91 f84_87 (Or.inr ⟨(hw _ (List.mem_of_getElem? (i := 48) rfl)), rfl, hnm⟩) (hw _ (List.mem_of_getElem? (i := 3) rfl)) (ty := (.array .double)) (by decide) rfl rfl (g := (mkF m 105 #[.val (.ref aT), .val (.ref aA), .val (.ref aB), .val (.ref aR), .val .null, .val (.int (1 : Int32)), .val (.int (-1 : Int32))] [(.ref aN84), (.ref aT)])) rfl rfl (hb hby d1_105)
  have Fw97 := f84_91.same W97
  have f97_98 := f84_85.wr W97
  have f97_99 := f84_86.other W97 (Ne.symm ne_aT_b3)
  have f97_100 := f84_87.wr W97
  have f97_101 := f84_88.other W97 (Or.inr (slot_ne (Or.inr (hw _ (List.mem_of_getElem? (i := 21) rfl))) (Or.inr (hw _ (List.mem_of_getElem? (i := 48) rfl))) (by decide) (t := (.array .int)) (t' := (.array .double)) (by decide) (by decide)))
  have f97_102 := f84_89.other W97 (Or.inr (slot_ne (Or.inr (hw _ (List.mem_of_getElem? (i := 23) rfl))) (Or.inr (hw _ (List.mem_of_getElem? (i := 48) rfl))) (by decide) (t := (.array .int)) (t' := (.array .double)) (by decide) (by decide)))
  have f97_103 := f84_90.other W97 (Or.inr (slot_ne (Or.inr (hw _ (List.mem_of_getElem? (i := 25) rfl))) (Or.inr (hw _ (List.mem_of_getElem? (i := 48) rfl))) (by decide) (t := (.array .int)) (t' := (.array .double)) (by decide) (by decide)))
  have f97_104 := f84_92.other W97 (Or.inr (slot_ne (Or.inr (hw _ (List.mem_of_getElem? (i := 50) rfl))) (Or.inr (hw _ (List.mem_of_getElem? (i := 48) rfl))) (by decide) (t := (.array .double)) (t' := (.array .double)) (by decide) (by decide)))
  have f97_105 := f84_93.wr W97
  have f97_106 := f84_94.other W97 (Ne.symm ne_aT_b13)
  have f97_107 := f84_95.wr W97
  have f97_108 := f84_96.other W97 (Ne.symm ne_aT_b33)
  have f97_109 := EN84.wr W97
  have f97_110 := VN84.other W97 (Ne.symm ne_aT_aN84)
  have K97 : Keep h0 h97 [aT] := (K84).wr W97 (Or.inl (by simp))
  have N97 := Fr.snoc X97 N84 gn_aT
  have Zh97 : n0 ≤ h97.size := Nat.le_trans Z0 K97.1
  have hk97 := Nat.le_trans hk84 (Keep.of_wr W97).1
  refine own_back ?_ st97
  show own_Go p e below PO (T97.setTop (mkF m 108 #[.val (.ref aT), .val (.ref aA), .val (.ref aB), .val (.ref aR), .val .null, .val (.int (1 : Int32)), .val (.int (-1 : Int32))] []))
  refine own_back ?_ (fun t k => XS.aload X97.here hx rfl (hb hby d1_108) rfl rfl k)
  show own_Go p e below PO (T97.setTop (mkF m 110 #[.val (.ref aT), .val (.ref aA), .val (.ref aB), .val (.ref aR), .val .null, .val (.int (1 : Int32)), .val (.int (-1 : Int32))] [.null]))
  refine own_back ?_ (fun t k => XS.ifnullYes X97.here hx rfl (pc0 := 110) (pc' := 134) rfl (hb hby d1_110) rfl (by decide) (by decide) k)
  show own_Go p e below PO (T97.setTop (mkF m 134 #[.val (.ref aT), .val (.ref aA), .val (.ref aB), .val (.ref aR), .val .null, .val (.int (1 : Int32)), .val (.int (-1 : Int32))] []))
  refine own_back ?_ (fun t k => XS.aloadN X97.here hx rfl (hb hby d1_134) rfl rfl k)
  show own_Go p e below PO (T97.setTop (mkF m 135 #[.val (.ref aT), .val (.ref aA), .val (.ref aB), .val (.ref aR), .val .null, .val (.int (1 : Int32)), .val (.int (-1 : Int32))] [(.ref aT)]))
  refine own_back ?_ (fun t k => XS.aload X97.here hx rfl (hb hby d1_135) rfl rfl k)
  show own_Go p e below PO (T97.setTop (mkF m 137 #[.val (.ref aT), .val (.ref aA), .val (.ref aB), .val (.ref aR), .val .null, .val (.int (1 : Int32)), .val (.int (-1 : Int32))] [.null, (.ref aT)]))
  refine own_back ?_ (fun t k => XS.ifnonnullNo X97.here hx rfl (hb hby d1_137) rfl k)
  show own_Go p e below PO (T97.setTop (mkF m 140 #[.val (.ref aT), .val (.ref aA), .val (.ref aB), .val (.ref aR), .val .null, .val (.int (1 : Int32)), .val (.int (-1 : Int32))] [(.ref aT)]))
  refine own_back ?_ (fun t k => XS.aconstNull X97.here hx rfl (hb hby d1_140) k)
  show own_Go p e below PO (T97.setTop (mkF m 141 #[.val (.ref aT), .val (.ref aA), .val (.ref aB), .val (.ref aR), .val .null, .val (.int (1 : Int32)), .val (.int (-1 : Int32))] [.null, (.ref aT)]))
  refine own_back ?_ (fun t k => XS.goto X97.here hx rfl (pc0 := 141) (pc' := 153) rfl (hb hby d1_141) (by decide) (by decide) k)
  show own_Go p e below PO (T97.setTop (mkF m 153 #[.val (.ref aT), .val (.ref aA), .val (.ref aB), .val (.ref aR), .val .null, .val (.int (1 : Int32)), .val (.int (-1 : Int32))] [.null, (.ref aT)]))
  obtain ⟨T111, h111, X111, e111, W111, st111⟩ := putF X97 hx hZ hown (host := "") (Or.inl (hw _ (List.mem_of_getElem? (i := 49) rfl))) Via.refl e97 f97_104 f97_100 (Or.inr ⟨(hw _ (List.mem_of_getElem? (i := 50) rfl)), rfl, hnm⟩) (hw _ (List.mem_of_getElem? (i := 3) rfl)) (ty := (.array .double)) (by decide) rfl rfl (g := (mkF m 153 #[.val (.ref aT), .val (.ref aA), .val (.ref aB), .val (.ref aR), .val .null, .val (.int (1 : Int32)), .val (.int (-1 : Int32))] [.null, (.ref aT)])) rfl rfl (hb hby d1_153)
  have Fw111 := f97_104.same W111
  have f111_112 := f97_98.wr W111
  have f111_113 := f97_99.other W111 (Ne.symm ne_aT_b3)
  have f111_114 := f97_100.wr W111
  have f111_115 := f97_101.other W111 (Or.inr (slot_ne (Or.inr (hw _ (List.mem_of_getElem? (i := 21) rfl))) (Or.inr (hw _ (List.mem_of_getElem? (i := 50) rfl))) (by decide) (t := (.array .int)) (t' := (.array .double)) (by decide) (by decide)))
  have f111_116 := f97_102.other W111 (Or.inr (slot_ne (Or.inr (hw _ (List.mem_of_getElem? (i := 23) rfl))) (Or.inr (hw _ (List.mem_of_getElem? (i := 50) rfl))) (by decide) (t := (.array .int)) (t' := (.array .double)) (by decide) (by decide)))
  have f111_117 := f97_103.other W111 (Or.inr (slot_ne (Or.inr (hw _ (List.mem_of_getElem? (i := 25) rfl))) (Or.inr (hw _ (List.mem_of_getElem? (i := 50) rfl))) (by decide) (t := (.array .int)) (t' := (.array .double)) (by decide) (by decide)))
  have f111_118 := Fw97.other W111 (Or.inr (slot_ne (Or.inr (hw _ (List.mem_of_getElem? (i := 48) rfl))) (Or.inr (hw _ (List.mem_of_getElem? (i := 50) rfl))) (by decide) (t := (.array .double)) (t' := (.array .double)) (by decide) (by decide)))
  have f111_119 := f97_105.wr W111
  have f111_120 := f97_106.other W111 (Ne.symm ne_aT_b13)
  have f111_121 := f97_107.wr W111
  have f111_122 := f97_108.other W111 (Ne.symm ne_aT_b33)
  have f111_123 := f97_109.wr W111
  have f111_124 := f97_110.other W111 (Ne.symm ne_aT_aN84)
  have K111 : Keep h0 h111 [aT] := (K97).wr W111 (Or.inl (by simp))
  have N111 := Fr.snoc X111 N97 gn_aT
  have Zh111 : n0 ≤ h111.size := Nat.le_trans Z0 K111.1
  have hk111 := Nat.le_trans hk97 (Keep.of_wr W111).1
  refine own_back ?_ st111
  show own_Go p e below PO (T111.setTop (mkF m 156 #[.val (.ref aT), .val (.ref aA), .val (.ref aB), .val (.ref aR), .val .null, .val (.int (1 : Int32)), .val (.int (-1 : Int32))] []))
  refine own_retVW X111 hx Bd.returns (hb hby d1_156) e111 (Bd.notSynchronized) ?_ (by decide) (by decide) (s := s) (vm0 := T71.vm) hS71 hk111
  exact ⟨rfl, N111, K111, b3, sz_b3, f111_115, f111_113⟩
theorem d5_0 : decode prog_2_method_8_code 0 = .ok (.aload_n 0, 1) := by decide +kernel
theorem d5_1 : decode prog_2_method_8_code 1 = .ok (.getfield 22, 3) := by decide +kernel
theorem d5_4 : decode prog_2_method_8_code 4 = .ok (.astore_n 2, 1) := by decide +kernel
theorem d5_5 : decode prog_2_method_8_code 5 = .ok (.aload_n 2, 1) := by decide +kernel
theorem d5_6 : decode prog_2_method_8_code 6 = .ok (.arraylength, 1) := by decide +kernel
theorem d5_7 : decode prog_2_method_8_code 7 = .ok (.istore_n 3, 1) := by decide +kernel
theorem d5_8 : decode prog_2_method_8_code 8 = .ok (.iconst 0, 1) := by decide +kernel
theorem d5_9 : decode prog_2_method_8_code 9 = .ok (.istore 4, 2) := by decide +kernel
theorem d5_11 : decode prog_2_method_8_code 11 = .ok (.iload 4, 2) := by decide +kernel
theorem d5_13 : decode prog_2_method_8_code 13 = .ok (.iload_n 3, 1) := by decide +kernel
theorem d5_14 : decode prog_2_method_8_code 14 = .ok (.if_icmp .ge 23, 3) := by decide +kernel
theorem d5_17 : decode prog_2_method_8_code 17 = .ok (.aload_n 2, 1) := by decide +kernel
theorem d5_18 : decode prog_2_method_8_code 18 = .ok (.iload 4, 2) := by decide +kernel
theorem d5_20 : decode prog_2_method_8_code 20 = .ok (.iaload, 1) := by decide +kernel
theorem d5_21 : decode prog_2_method_8_code 21 = .ok (.istore 5, 2) := by decide +kernel
theorem d5_23 : decode prog_2_method_8_code 23 = .ok (.iload 5, 2) := by decide +kernel
theorem d5_25 : decode prog_2_method_8_code 25 = .ok (.iload_n 1, 1) := by decide +kernel
theorem d5_26 : decode prog_2_method_8_code 26 = .ok (.if_icmp .ne 5, 3) := by decide +kernel
theorem d5_29 : decode prog_2_method_8_code 29 = .ok (.iconst 1, 1) := by decide +kernel
theorem d5_30 : decode prog_2_method_8_code 30 = .ok (.ireturn, 1) := by decide +kernel
theorem d5_31 : decode prog_2_method_8_code 31 = .ok (.iinc 4 1, 3) := by decide +kernel
theorem d5_34 : decode prog_2_method_8_code 34 = .ok (.goto (-23), 3) := by decide +kernel
theorem d5_37 : decode prog_2_method_8_code 37 = .ok (.iconst 0, 1) := by decide +kernel
theorem d5_38 : decode prog_2_method_8_code 38 = .ok (.ireturn, 1) := by decide +kernel
theorem ef_rmH_1 (m : MethodId) (x0 : Addr) (x1 : Int32) : entryFrame m #[(.ref x0), (.int x1)] 6 = mkF m 0 #[.val (.ref x0), .val (.int x1), .unset, .unset, .unset, .unset] [] := by first | (simp [entryFrame, mkF, argsToLocals, Value.category]; done) | rfl
def Q_rmH_1 (xA pQ : Int32) (h0 : Heap) (n0 : Nat) (v : Option Value) (h : Heap) (L : List Loc) : Prop := v = some (.int (own_h1 xA pQ)) ∧ Fr n0 L ∧ h = h0
set_option maxRecDepth 65536 in
set_option maxHeartbeats 40000000 in
theorem rmH_1 (l : Launch) (Z : State) (a0 : Array Value) (hw : ∀ d ∈ tables_1, d.before a0 Z = true) (ws : List Jvm.Cond) (aT : Addr) (pQ : Int32) (aA : Addr) (kA : ClassId) (xA : Int32) (h0 : Heap) (n0 : Nat) (Z0 : n0 ≤ h0.size) (F_S : Fld Z h0 aT "com/example/nearbound/nearbound/dcop/Constraint" "scope" "[I" (.ref aA)) (V_A : Arv Z h0 aA kA .int (1 : Int32) [(.int xA)] (.int (0 : Int32))) :
    MetFree l (⟨"com/example/nearbound/nearbound/dcop/Constraint", "holds", "(I)Z"⟩ : MethodName) (head1 (Jvm.Cond.code (⟨"com/example/nearbound/nearbound/dcop/Constraint", "holds", "(I)Z"⟩ : MethodName) prog_2_method_8_code 6 (some .boolean) :: ws) ({ frames := 0, cells := 0, slots := 0, locals := 0 } : Room)) (fun a U => a = #[(.ref aT), (.int pQ)] ∧ Z.Warmed39 U.vm ∧ U.heap = h0) (fun _ _ _ _ _ => True) (fun _ U o U' => ∃ v L, o = .returned v ∧ Q_rmH_1 xA pQ h0 n0 v U'.heap L ∧ FrameEnd U o U' L ({ frames := 0, cells := 0, slots := 0, locals := 0 } : Room).cells ({ frames := 0, cells := 0, slots := 0, locals := 0 } : Room).slots) := by
  refine MetFree.of_bodySF (plainFor_of_name pn_0) hisR ?_
  intro p e s m args below meth c s₁ Bd hml0 hP hK
  obtain ⟨rfl, hZ, hh⟩ := hP
  have hx := Bd.exec
  have hby := Bd.bytes
  have hml : c.maxLocals = 6 := hml0
  have hown : s.vm.findClass "com/example/nearbound/nearbound/dcop/Constraint" = some m.cls := findClass_of_methodNamed Bd.named
  have hnm := (name_of_methodNamed Bd.named Bd.method).1
  have X0 : Stand p l e ({ frames := 0, cells := 0, slots := 0, locals := 0 } : Room) s m #[(.ref aT), (.int pQ)] below meth c s₁ [] 0 0 := Stand.of_body Bd
  have e0 : s₁.heap = h0 := by rw [← hh, Bd.state]; rfl
  have N0 := Fr.nil n0
  let PO : Outcome → State → Prop := own_PO s (Q_rmH_1 xA pQ h0 n0) 0 0
  show own_Go p e below PO (s₁.setTop (entryFrame m #[(.ref aT), (.int pQ)] 6))
  rw [ef_rmH_1]
  show own_Go p e below PO (s₁.setTop (mkF m 0 #[.val (.ref aT), .val (.int pQ), .unset, .unset, .unset, .unset] []))
  refine own_back ?_ (fun t k => XS.aloadN X0.here hx rfl (hb hby d5_0) rfl rfl k)
  show own_Go p e below PO (s₁.setTop (mkF m 1 #[.val (.ref aT), .val (.int pQ), .unset, .unset, .unset, .unset] [(.ref aT)]))
  obtain ⟨T1, X1, e1, st1⟩ := getF X0 hx hZ hown (host := "") (Or.inl (hw _ (List.mem_of_getElem? (i := 20) rfl))) Via.refl e0 F_S (g := (mkF m 1 #[.val (.ref aT), .val (.int pQ), .unset, .unset, .unset, .unset] [(.ref aT)])) rfl rfl (hb hby d5_1)
  refine own_back ?_ st1
  show own_Go p e below PO (T1.setTop (mkF m 4 #[.val (.ref aT), .val (.int pQ), .unset, .unset, .unset, .unset] [(.ref aA)]))
  refine own_back ?_ (fun t k => XS.astoreN X1.here hx rfl (hb hby d5_4) rfl rfl (l' := #[.val (.ref aT), .val (.int pQ), .val (.ref aA), .unset, .unset, .unset]) rfl k)
  show own_Go p e below PO (T1.setTop (mkF m 5 #[.val (.ref aT), .val (.int pQ), .val (.ref aA), .unset, .unset, .unset] []))
  refine own_back ?_ (fun t k => XS.aloadN X1.here hx rfl (hb hby d5_5) rfl rfl k)
  show own_Go p e below PO (T1.setTop (mkF m 6 #[.val (.ref aT), .val (.int pQ), .val (.ref aA), .unset, .unset, .unset] [(.ref aA)]))
  refine own_back ?_ (own_len X1 hx hZ e1 V_A (g := (mkF m 6 #[.val (.ref aT), .val (.int pQ), .val (.ref aA), .unset, .unset, .unset] [(.ref aA)])) rfl rfl (hb hby d5_6))
  show own_Go p e below PO (T1.setTop (mkF m 7 #[.val (.ref aT), .val (.int pQ), .val (.ref aA), .unset, .unset, .unset] [(.int (1 : Int32))]))
  refine own_back ?_ (fun t k => XS.istoreN X1.here hx rfl (hb hby d5_7) rfl (l' := #[.val (.ref aT), .val (.int pQ), .val (.ref aA), .val (.int (1 : Int32)), .unset, .unset]) rfl k)
  show own_Go p e below PO (T1.setTop (mkF m 8 #[.val (.ref aT), .val (.int pQ), .val (.ref aA), .val (.int (1 : Int32)), .unset, .unset] []))
  refine own_back ?_ (fun t k => XS.iconst X1.here hx rfl (hb hby d5_8) k)
  show own_Go p e below PO (T1.setTop (mkF m 9 #[.val (.ref aT), .val (.int pQ), .val (.ref aA), .val (.int (1 : Int32)), .unset, .unset] [(.int (0 : Int32))]))
  refine own_back ?_ (fun t k => XS.istore X1.here hx rfl (hb hby d5_9) rfl (l' := #[.val (.ref aT), .val (.int pQ), .val (.ref aA), .val (.int (1 : Int32)), .val (.int (0 : Int32)), .unset]) rfl k)
  show own_Go p e below PO (T1.setTop (mkF m 11 #[.val (.ref aT), .val (.int pQ), .val (.ref aA), .val (.int (1 : Int32)), .val (.int (0 : Int32)), .unset] []))
  refine own_back ?_ (fun t k => XS.iload X1.here hx rfl (hb hby d5_11) rfl k)
  show own_Go p e below PO (T1.setTop (mkF m 13 #[.val (.ref aT), .val (.int pQ), .val (.ref aA), .val (.int (1 : Int32)), .val (.int (0 : Int32)), .unset] [(.int (0 : Int32))]))
  refine own_back ?_ (fun t k => XS.iloadN X1.here hx rfl (hb hby d5_13) rfl k)
  show own_Go p e below PO (T1.setTop (mkF m 14 #[.val (.ref aT), .val (.int pQ), .val (.ref aA), .val (.int (1 : Int32)), .val (.int (0 : Int32)), .unset] [(.int (1 : Int32)), (.int (0 : Int32))]))
  have hd14_2 : (0 : Int32) < (1 : Int32) := (by decide)
  refine own_back ?_ (fun t k => XS.icmpNo X1.here hx rfl (hb hby d5_14) rfl (tlt hd14_2).2.1 k)
  show own_Go p e below PO (T1.setTop (mkF m 17 #[.val (.ref aT), .val (.int pQ), .val (.ref aA), .val (.int (1 : Int32)), .val (.int (0 : Int32)), .unset] []))
  refine own_back ?_ (fun t k => XS.aloadN X1.here hx rfl (hb hby d5_17) rfl rfl k)
  show own_Go p e below PO (T1.setTop (mkF m 18 #[.val (.ref aT), .val (.int pQ), .val (.ref aA), .val (.int (1 : Int32)), .val (.int (0 : Int32)), .unset] [(.ref aA)]))
  refine own_back ?_ (fun t k => XS.iload X1.here hx rfl (hb hby d5_18) rfl k)
  show own_Go p e below PO (T1.setTop (mkF m 20 #[.val (.ref aT), .val (.int pQ), .val (.ref aA), .val (.int (1 : Int32)), .val (.int (0 : Int32)), .unset] [(.int (0 : Int32)), (.ref aA)]))
  refine own_back ?_ (own_ldI X1 hx hZ e1 V_A (j := (0 : Int32)) (v := (.int xA)) ⟨by decide, by decide⟩ rfl (g := (mkF m 20 #[.val (.ref aT), .val (.int pQ), .val (.ref aA), .val (.int (1 : Int32)), .val (.int (0 : Int32)), .unset] [(.int (0 : Int32)), (.ref aA)])) rfl rfl (hb hby d5_20))
  show own_Go p e below PO (T1.setTop (mkF m 21 #[.val (.ref aT), .val (.int pQ), .val (.ref aA), .val (.int (1 : Int32)), .val (.int (0 : Int32)), .unset] [(.int xA)]))
  refine own_back ?_ (fun t k => XS.istore X1.here hx rfl (hb hby d5_21) rfl (l' := #[.val (.ref aT), .val (.int pQ), .val (.ref aA), .val (.int (1 : Int32)), .val (.int (0 : Int32)), .val (.int xA)]) rfl k)
  show own_Go p e below PO (T1.setTop (mkF m 23 #[.val (.ref aT), .val (.int pQ), .val (.ref aA), .val (.int (1 : Int32)), .val (.int (0 : Int32)), .val (.int xA)] []))
  refine own_back ?_ (fun t k => XS.iload X1.here hx rfl (hb hby d5_23) rfl k)
  show own_Go p e below PO (T1.setTop (mkF m 25 #[.val (.ref aT), .val (.int pQ), .val (.ref aA), .val (.int (1 : Int32)), .val (.int (0 : Int32)), .val (.int xA)] [(.int xA)]))
  refine own_back ?_ (fun t k => XS.iloadN X1.here hx rfl (hb hby d5_25) rfl k)
  show own_Go p e below PO (T1.setTop (mkF m 26 #[.val (.ref aT), .val (.int pQ), .val (.ref aA), .val (.int (1 : Int32)), .val (.int (0 : Int32)), .val (.int xA)] [(.int pQ), (.int xA)]))
  by_cases hc26_3 : xA = pQ
  case pos =>
    refine own_back ?_ (fun t k => XS.icmpNo X1.here hx rfl (hb hby d5_26) rfl (teq hc26_3).2 k)
    show own_Go p e below PO (T1.setTop (mkF m 29 #[.val (.ref aT), .val (.int pQ), .val (.ref aA), .val (.int (1 : Int32)), .val (.int (0 : Int32)), .val (.int xA)] []))
    refine own_back ?_ (fun t k => XS.iconst X1.here hx rfl (hb hby d5_29) k)
    show own_Go p e below PO (T1.setTop (mkF m 30 #[.val (.ref aT), .val (.int pQ), .val (.ref aA), .val (.int (1 : Int32)), .val (.int (0 : Int32)), .val (.int xA)] [(.int (1 : Int32))]))
    refine own_retN X1 hx (t := .boolean) (rest := []) Bd.returns (by decide) (by simp) (hb hby d5_30) e1 (Bd.notSynchronized) ?_ (by decide) (by decide)
    exact ⟨by simp [own_h1, own_h2, own_h3, hd14_2, hc26_3], N0, rfl⟩
  refine own_back ?_ (fun t k => XS.icmpYes X1.here hx rfl (pc0 := 26) (pc' := 31) rfl (hb hby d5_26) rfl (feq hc26_3).2 (by decide) (by decide) k)
  show own_Go p e below PO (T1.setTop (mkF m 31 #[.val (.ref aT), .val (.int pQ), .val (.ref aA), .val (.int (1 : Int32)), .val (.int (0 : Int32)), .val (.int xA)] []))
  refine own_back ?_ (fun t k => XS.iinc X1.here hx rfl (hb hby d5_31) rfl (l' := #[.val (.ref aT), .val (.int pQ), .val (.ref aA), .val (.int (1 : Int32)), .val (.int (1 : Int32)), .val (.int xA)]) rfl k)
  show own_Go p e below PO (T1.setTop (mkF m 34 #[.val (.ref aT), .val (.int pQ), .val (.ref aA), .val (.int (1 : Int32)), .val (.int (1 : Int32)), .val (.int xA)] []))
  refine own_back ?_ (fun t k => XS.goto X1.here hx rfl (pc0 := 34) (pc' := 11) rfl (hb hby d5_34) (by decide) (by decide) k)
  show own_Go p e below PO (T1.setTop (mkF m 11 #[.val (.ref aT), .val (.int pQ), .val (.ref aA), .val (.int (1 : Int32)), .val (.int (1 : Int32)), .val (.int xA)] []))
  refine own_back ?_ (fun t k => XS.iload X1.here hx rfl (hb hby d5_11) rfl k)
  show own_Go p e below PO (T1.setTop (mkF m 13 #[.val (.ref aT), .val (.int pQ), .val (.ref aA), .val (.int (1 : Int32)), .val (.int (1 : Int32)), .val (.int xA)] [(.int (1 : Int32))]))
  refine own_back ?_ (fun t k => XS.iloadN X1.here hx rfl (hb hby d5_13) rfl k)
  show own_Go p e below PO (T1.setTop (mkF m 14 #[.val (.ref aT), .val (.int pQ), .val (.ref aA), .val (.int (1 : Int32)), .val (.int (1 : Int32)), .val (.int xA)] [(.int (1 : Int32)), (.int (1 : Int32))]))
  refine own_back ?_ (fun t k => XS.icmpYes X1.here hx rfl (pc0 := 14) (pc' := 37) rfl (hb hby d5_14) rfl (flt Int32.lt_irrefl).2.1 (by decide) (by decide) k)
  show own_Go p e below PO (T1.setTop (mkF m 37 #[.val (.ref aT), .val (.int pQ), .val (.ref aA), .val (.int (1 : Int32)), .val (.int (1 : Int32)), .val (.int xA)] []))
  refine own_back ?_ (fun t k => XS.iconst X1.here hx rfl (hb hby d5_37) k)
  show own_Go p e below PO (T1.setTop (mkF m 38 #[.val (.ref aT), .val (.int pQ), .val (.ref aA), .val (.int (1 : Int32)), .val (.int (1 : Int32)), .val (.int xA)] [(.int (0 : Int32))]))
  refine own_retN X1 hx (t := .boolean) (rest := []) Bd.returns (by decide) (by simp) (hb hby d5_38) e1 (Bd.notSynchronized) ?_ (by decide) (by decide)
  exact ⟨by simp [own_h1, own_h2, own_h3, hd14_2, hc26_3], N0, rfl⟩
theorem ef_rmI_2 (m : MethodId) (x0 : Addr) (x1 : Addr) (x2 : Addr) (x3 : Addr) : entryFrame m #[(.ref x0), (.ref x1), (.ref x2), (.ref x3), .null] 7 = mkF m 0 #[.val (.ref x0), .val (.ref x1), .val (.ref x2), .val (.ref x3), .val .null, .unset, .unset] [] := by first | (simp [entryFrame, mkF, argsToLocals, Value.category]; done) | rfl
def Q_rmI_2 (Z : State) (aT : Addr) (kA : ClassId) (xA xB : Int32) (h0 : Heap) (n0 : Nat) (v : Option Value) (h : Heap) (L : List Loc) : Prop := v = none ∧ Fr n0 L ∧ Keep h0 h [aT] ∧ ∃ aN : Addr, h0.size ≤ aN ∧ Fld Z h aT "com/example/nearbound/nearbound/dcop/Constraint" "scope" "[I" (.ref aN) ∧ Arv Z h aN kA .int (2 : Int32) [(.int xA), (.int xB)] (.int (0 : Int32))
set_option maxRecDepth 65536 in
set_option maxHeartbeats 40000000 in
theorem rmI_2 (l : Launch) (Z : State) (a0 : Array Value) (hw : ∀ d ∈ tables_1, d.before a0 Z = true) (ws : List Jvm.Cond) (aT : Addr) (aA : Addr) (aB : Addr) (aR : Addr) (kA kB kR : ClassId) (xA xB : Int32) (u0 : UInt64) (h0 : Heap) (n0 : Nat) (Z0 : n0 ≤ h0.size) (E_T : Exa Z h0 aT "com/example/nearbound/nearbound/dcop/Constraint") (F_scope : Fld Z h0 aT "com/example/nearbound/nearbound/dcop/Constraint" "scope" "[I" .null) (F_sizes : Fld Z h0 aT "com/example/nearbound/nearbound/dcop/Constraint" "sizes" "[I" .null) (F_strides : Fld Z h0 aT "com/example/nearbound/nearbound/dcop/Constraint" "strides" "[I" .null) (F_rewards : Fld Z h0 aT "com/example/nearbound/nearbound/dcop/Constraint" "rewards" "[D" .null) (F_costs : Fld Z h0 aT "com/example/nearbound/nearbound/dcop/Constraint" "costs" "[D" .null) (E_A : Exa Z h0 aA "[I") (V_A : Arv Z h0 aA kA .int (2 : Int32) [(.int xA), (.int xB)] (.int (0 : Int32))) (E_B : Exa Z h0 aB "[I") (V_B : Arv Z h0 aB kB .int (2 : Int32) [(.int (1 : Int32)), (.int (1 : Int32))] (.int (0 : Int32))) (E_R : Exa Z h0 aR "[D") (V_R : Arv Z h0 aR kR .double (1 : Int32) [(.double u0)] (.double (0 : UInt64))) (nA : aA ≠ aT) (nB : aB ≠ aT) (nR : aR ≠ aT) (gn_aT : n0 ≤ aT) :
    MetFree l (⟨"com/example/nearbound/nearbound/dcop/Constraint", "<init>", "([I[I[D[D)V"⟩ : MethodName) (head1 (Jvm.Cond.code (⟨"com/example/nearbound/nearbound/dcop/Constraint", "<init>", "([I[I[D[D)V"⟩ : MethodName) prog_2_method_1_code 7 none :: ws) ({ frames := 2, cells := 6, slots := 39, locals := 29 } : Room)) (fun a U => a = #[(.ref aT), (.ref aA), (.ref aB), (.ref aR), .null] ∧ Z.Warmed39 U.vm ∧ U.heap = h0) (fun _ _ _ _ _ => True) (fun _ U o U' => ∃ v L, o = .returned v ∧ Q_rmI_2 Z aT kA xA xB h0 n0 v U'.heap L ∧ ReturnedEndW U o U' L ({ frames := 2, cells := 6, slots := 39, locals := 29 } : Room).cells ({ frames := 2, cells := 6, slots := 39, locals := 29 } : Room).slots) := by
  refine MetFree.of_bodySF (plainFor_of_name pn_0) hisR ?_
  intro p e s m args below meth c s₁ Bd hml0 hP hK
  obtain ⟨rfl, hZ, hh⟩ := hP
  have hx := Bd.exec
  have hby := Bd.bytes
  have hml : c.maxLocals = 7 := hml0
  have hown : s.vm.findClass "com/example/nearbound/nearbound/dcop/Constraint" = some m.cls := findClass_of_methodNamed Bd.named
  have hnm := (name_of_methodNamed Bd.named Bd.method).1
  have X0 : Stand p l e ({ frames := 2, cells := 6, slots := 39, locals := 29 } : Room) s m #[(.ref aT), (.ref aA), (.ref aB), (.ref aR), .null] below meth c s₁ [] 0 0 := Stand.of_body Bd
  have e0 : s₁.heap = h0 := by rw [← hh, Bd.state]; rfl
  have N0 := Fr.nil n0
  have hS0 : s.Since s.vm 0 := (State.WarmedH.refl s).since 0
  let PO : Outcome → State → Prop := own_POW s (Q_rmI_2 Z aT kA xA xB h0 n0) 6 39
  show own_Go p e below PO (s₁.setTop (entryFrame m #[(.ref aT), (.ref aA), (.ref aB), (.ref aR), .null] 7))
  rw [ef_rmI_2]
  show own_Go p e below PO (s₁.setTop (mkF m 0 #[.val (.ref aT), .val (.ref aA), .val (.ref aB), .val (.ref aR), .val .null, .unset, .unset] []))
  refine own_back ?_ (fun t k => XS.aloadN X0.here hx rfl (hb hby d1_0) rfl rfl k)
  show own_Go p e below PO (s₁.setTop (mkF m 1 #[.val (.ref aT), .val (.ref aA), .val (.ref aB), .val (.ref aR), .val .null, .unset, .unset] [(.ref aT)]))
  obtain ⟨T1, X1, e1, st1⟩ := initO X0 hx hZ hown (hw _ (List.mem_of_getElem? (i := 8) rfl)) (hw _ (List.mem_of_getElem? (i := 9) rfl)) (hw _ (List.mem_of_getElem? (i := 10) rfl)) e0 (g := (mkF m 1 #[.val (.ref aT), .val (.ref aA), .val (.ref aB), .val (.ref aR), .val .null, .unset, .unset] [(.ref aT)])) rfl (by rw [hml]; rfl) rfl (hb hby d1_1) (by decide) (W := 0) (by show 2 * 0 + _ ≤ _; exact Nat.le_of_eq rfl) (by decide)
  refine own_back ?_ st1
  show own_Go p e below PO (T1.setTop (mkF m 4 #[.val (.ref aT), .val (.ref aA), .val (.ref aB), .val (.ref aR), .val .null, .unset, .unset] []))
  refine own_back ?_ (fun t k => XS.aloadN X1.here hx rfl (hb hby d1_4) rfl rfl k)
  show own_Go p e below PO (T1.setTop (mkF m 5 #[.val (.ref aT), .val (.ref aA), .val (.ref aB), .val (.ref aR), .val .null, .unset, .unset] [(.ref aA)]))
  refine own_back ?_ (own_len X1 hx hZ e1 V_A (g := (mkF m 5 #[.val (.ref aT), .val (.ref aA), .val (.ref aB), .val (.ref aR), .val .null, .unset, .unset] [(.ref aA)])) rfl rfl (hb hby d1_5))
  show own_Go p e below PO (T1.setTop (mkF m 6 #[.val (.ref aT), .val (.ref aA), .val (.ref aB), .val (.ref aR), .val .null, .unset, .unset] [(.int (2 : Int32))]))
  have hd6_2 : ¬ ((2 : Int32) = (0 : Int32)) := (by decide)
  refine own_back ?_ (fun t k => XS.ifNo X1.here hx rfl (hb hby d1_6) rfl ((if0 _ _).trans (feq hd6_2).1) k)
  show own_Go p e below PO (T1.setTop (mkF m 9 #[.val (.ref aT), .val (.ref aA), .val (.ref aB), .val (.ref aR), .val .null, .unset, .unset] []))
  refine own_back ?_ (fun t k => XS.aloadN X1.here hx rfl (hb hby d1_9) rfl rfl k)
  show own_Go p e below PO (T1.setTop (mkF m 10 #[.val (.ref aT), .val (.ref aA), .val (.ref aB), .val (.ref aR), .val .null, .unset, .unset] [(.ref aA)]))
  refine own_back ?_ (own_len X1 hx hZ e1 V_A (g := (mkF m 10 #[.val (.ref aT), .val (.ref aA), .val (.ref aB), .val (.ref aR), .val .null, .unset, .unset] [(.ref aA)])) rfl rfl (hb hby d1_10))
  show own_Go p e below PO (T1.setTop (mkF m 11 #[.val (.ref aT), .val (.ref aA), .val (.ref aB), .val (.ref aR), .val .null, .unset, .unset] [(.int (2 : Int32))]))
  refine own_back ?_ (fun t k => XS.aloadN X1.here hx rfl (hb hby d1_11) rfl rfl k)
  show own_Go p e below PO (T1.setTop (mkF m 12 #[.val (.ref aT), .val (.ref aA), .val (.ref aB), .val (.ref aR), .val .null, .unset, .unset] [(.ref aB), (.int (2 : Int32))]))
  refine own_back ?_ (own_len X1 hx hZ e1 V_B (g := (mkF m 12 #[.val (.ref aT), .val (.ref aA), .val (.ref aB), .val (.ref aR), .val .null, .unset, .unset] [(.ref aB), (.int (2 : Int32))])) rfl rfl (hb hby d1_12))
  show own_Go p e below PO (T1.setTop (mkF m 13 #[.val (.ref aT), .val (.ref aA), .val (.ref aB), .val (.ref aR), .val .null, .unset, .unset] [(.int (2 : Int32)), (.int (2 : Int32))]))
  refine own_back ?_ (fun t k => XS.icmpYes X1.here hx rfl (pc0 := 13) (pc' := 26) rfl (hb hby d1_13) rfl (teq rfl).1 (by decide) (by decide) k)
  show own_Go p e below PO (T1.setTop (mkF m 26 #[.val (.ref aT), .val (.ref aA), .val (.ref aB), .val (.ref aR), .val .null, .unset, .unset] []))
  refine own_back ?_ (fun t k => XS.aloadN X1.here hx rfl (hb hby d1_26) rfl rfl k)
  show own_Go p e below PO (T1.setTop (mkF m 27 #[.val (.ref aT), .val (.ref aA), .val (.ref aB), .val (.ref aR), .val .null, .unset, .unset] [(.ref aT)]))
  refine own_back ?_ (fun t k => XS.aloadN X1.here hx rfl (hb hby d1_27) rfl rfl k)
  show own_Go p e below PO (T1.setTop (mkF m 28 #[.val (.ref aT), .val (.ref aA), .val (.ref aB), .val (.ref aR), .val .null, .unset, .unset] [(.ref aA), (.ref aT)]))
  obtain ⟨T3, h3, X3, e3, E3, A3, Ex3, st3⟩ := cloneH X1 hx hZ hown (hw _ (List.mem_of_getElem? (i := 11) rfl)) (hw _ (List.mem_of_getElem? (i := 12) rfl)) (hw _ (List.mem_of_getElem? (i := 16) rfl)) (hw _ (List.mem_of_getElem? (i := 14) rfl)) (hw _ (List.mem_of_getElem? (i := 15) rfl)) (hw _ (List.mem_of_getElem? (i := 17) rfl)) e1 (V_A).arh E_A (g := (mkF m 28 #[.val (.ref aT), .val (.ref aA), .val (.ref aB), .val (.ref aR), .val .null, .unset, .unset] [(.ref aA), (.ref aT)])) rfl (by rw [hml]; rfl) rfl (hb hby d1_28) (by decide) (W := 1) (by show 2 * 0 + _ ≤ _; exact Nat.le_of_eq rfl) (by decide) (cap := 2) (by decide) (by decide) (by decide)
  obtain ⟨b3, g3⟩ : ∃ z, z = h0.size := ⟨_, rfl⟩
  rw [← g3] at A3 Ex3 st3
  have ne_aA_b3 : aA ≠ b3 := Nat.ne_of_lt (Nat.lt_of_lt_of_le V_A.lt (Nat.le_of_eq g3.symm))
  have ne_aB_b3 : aB ≠ b3 := Nat.ne_of_lt (Nat.lt_of_lt_of_le V_B.lt (Nat.le_of_eq g3.symm))
  have ne_aR_b3 : aR ≠ b3 := Nat.ne_of_lt (Nat.lt_of_lt_of_le V_R.lt (Nat.le_of_eq g3.symm))
  have ne_aT_b3 : aT ≠ b3 := Nat.ne_of_lt (Nat.lt_of_lt_of_le E_T.lt (Nat.le_of_eq g3.symm))
  have sz_b3 : h0.size ≤ b3 := Nat.le_of_eq g3.symm
  have gn_b3 : n0 ≤ b3 := Nat.le_trans Z0 sz_b3
  have K3 : Keep h0 h3 [] := (Keep.refl h0 []).ext E3
  have Zh3 : n0 ≤ h3.size := Nat.le_trans Z0 K3.1
  have V3 : Arv Z h3 b3 kA .int (2 : Int32) [(.int xA), (.int xB)] (.int (0 : Int32)) := A3
  refine own_back ?_ st3
  show own_Go p e below PO (T3.setTop (mkF m 31 #[.val (.ref aT), .val (.ref aA), .val (.ref aB), .val (.ref aR), .val .null, .unset, .unset] [(.ref b3), (.ref aT)]))
  obtain ⟨T4, X4, e4, st4⟩ := castY X3 hx hZ hown (hw _ (List.mem_of_getElem? (i := 18) rfl)) e3 (Ins.self Ex3) (g := (mkF m 31 #[.val (.ref aT), .val (.ref aA), .val (.ref aB), .val (.ref aR), .val .null, .unset, .unset] [(.ref b3), (.ref aT)])) rfl rfl (hb hby d1_31)
  refine own_back ?_ st4
  show own_Go p e below PO (T4.setTop (mkF m 34 #[.val (.ref aT), .val (.ref aA), .val (.ref aB), .val (.ref aR), .val .null, .unset, .unset] [(.ref b3), (.ref aT)]))
  obtain ⟨T5, h5, X5, e5, W5, st5⟩ := putF X4 hx hZ hown (host := "") (Or.inl (hw _ (List.mem_of_getElem? (i := 20) rfl))) Via.refl e4 (F_scope.keep K3 nin0) (E_T.keep K3) (Or.inr ⟨(hw _ (List.mem_of_getElem? (i := 21) rfl)), rfl, hnm⟩) (hw _ (List.mem_of_getElem? (i := 3) rfl)) (ty := (.array .int)) (by decide) rfl rfl (g := (mkF m 34 #[.val (.ref aT), .val (.ref aA), .val (.ref aB), .val (.ref aR), .val .null, .unset, .unset] [(.ref b3), (.ref aT)])) rfl rfl (hb hby d1_34)
  have Fw5 := (F_scope.keep K3 nin0).same W5
  have f5_6 := Ex3.wr W5
  have f5_7 := V3.other W5 (Ne.symm ne_aT_b3)
  have f5_8 := (E_T.keep K3).wr W5
  have f5_9 := (F_sizes.keep K3 nin0).other W5 (Or.inr (slot_ne (Or.inr (hw _ (List.mem_of_getElem? (i := 23) rfl))) (Or.inr (hw _ (List.mem_of_getElem? (i := 21) rfl))) (by decide) (t := (.array .int)) (t' := (.array .int)) (by decide) (by decide)))
  have f5_10 := (F_strides.keep K3 nin0).other W5 (Or.inr (slot_ne (Or.inr (hw _ (List.mem_of_getElem? (i := 25) rfl))) (Or.inr (hw _ (List.mem_of_getElem? (i := 21) rfl))) (by decide) (t := (.array .int)) (t' := (.array .int)) (by decide) (by decide)))
  have f5_11 := (F_rewards.keep K3 nin0).other W5 (Or.inr (slot_ne (Or.inr (hw _ (List.mem_of_getElem? (i := 48) rfl))) (Or.inr (hw _ (List.mem_of_getElem? (i := 21) rfl))) (by decide) (t := (.array .double)) (t' := (.array .int)) (by decide) (by decide)))
  have f5_12 := (F_costs.keep K3 nin0).other W5 (Or.inr (slot_ne (Or.inr (hw _ (List.mem_of_getElem? (i := 50) rfl))) (Or.inr (hw _ (List.mem_of_getElem? (i := 21) rfl))) (by decide) (t := (.array .double)) (t' := (.array .int)) (by decide) (by decide)))
  have K5w : Keep h0 h3 [aT] := own_keep_more K3 (by simp)
  have K5 : Keep h0 h5 [aT] := (K5w).wr W5 (Or.inl (by simp))
  have N5 := Fr.snoc X5 N0 gn_aT
  have Zh5 : n0 ≤ h5.size := Nat.le_trans Z0 K5.1
  refine own_back ?_ st5
  show own_Go p e below PO (T5.setTop (mkF m 37 #[.val (.ref aT), .val (.ref aA), .val (.ref aB), .val (.ref aR), .val .null, .unset, .unset] []))
  refine own_back ?_ (fun t k => XS.aloadN X5.here hx rfl (hb hby d1_37) rfl rfl k)
  show own_Go p e below PO (T5.setTop (mkF m 38 #[.val (.ref aT), .val (.ref aA), .val (.ref aB), .val (.ref aR), .val .null, .unset, .unset] [(.ref aT)]))
  refine own_back ?_ (fun t k => XS.aloadN X5.here hx rfl (hb hby d1_38) rfl rfl k)
  show own_Go p e below PO (T5.setTop (mkF m 39 #[.val (.ref aT), .val (.ref aA), .val (.ref aB), .val (.ref aR), .val .null, .unset, .unset] [(.ref aB), (.ref aT)]))
  obtain ⟨T13, h13, X13, e13, E13, A13, Ex13, st13⟩ := cloneH X5 hx hZ hown (hw _ (List.mem_of_getElem? (i := 11) rfl)) (hw _ (List.mem_of_getElem? (i := 12) rfl)) (hw _ (List.mem_of_getElem? (i := 16) rfl)) (hw _ (List.mem_of_getElem? (i := 14) rfl)) (hw _ (List.mem_of_getElem? (i := 15) rfl)) (hw _ (List.mem_of_getElem? (i := 17) rfl)) e5 ((V_B.keep K5 (ninS nB nin0))).arh (E_B.keep K5) (g := (mkF m 39 #[.val (.ref aT), .val (.ref aA), .val (.ref aB), .val (.ref aR), .val .null, .unset, .unset] [(.ref aB), (.ref aT)])) rfl (by rw [hml]; rfl) rfl (hb hby d1_39) (by decide) (W := 1) (by show 2 * 0 + _ ≤ _; exact Nat.le_of_eq rfl) (by decide) (cap := 2) (by decide) (by decide) (by decide)
  obtain ⟨b13, g13⟩ : ∃ z, z = h5.size := ⟨_, rfl⟩
  rw [← g13] at A13 Ex13 st13
  have ne_aA_b13 : aA ≠ b13 := Nat.ne_of_lt (Nat.lt_of_lt_of_le (V_A.keep K5 (ninS nA nin0)).lt (Nat.le_of_eq g13.symm))
  have ne_aB_b13 : aB ≠ b13 := Nat.ne_of_lt (Nat.lt_of_lt_of_le (V_B.keep K5 (ninS nB nin0)).lt (Nat.le_of_eq g13.symm))
  have ne_aR_b13 : aR ≠ b13 := Nat.ne_of_lt (Nat.lt_of_lt_of_le (V_R.keep K5 (ninS nR nin0)).lt (Nat.le_of_eq g13.symm))
  have ne_aT_b13 : aT ≠ b13 := Nat.ne_of_lt (Nat.lt_of_lt_of_le f5_8.lt (Nat.le_of_eq g13.symm))
  have ne_b3_b13 : b3 ≠ b13 := Nat.ne_of_lt (Nat.lt_of_lt_of_le f5_6.lt (Nat.le_of_eq g13.symm))
  have sz_b13 : h0.size ≤ b13 := Nat.le_trans K5.1 (Nat.le_of_eq g13.symm)
  have gn_b13 : n0 ≤ b13 := Nat.le_trans Z0 sz_b13
  have f13_14 := f5_6.ext E13
  have f13_15 := f5_7.ext E13
  have f13_16 := f5_8.ext E13
  have f13_17 := Fw5.ext E13
  have f13_18 := f5_9.ext E13
  have f13_19 := f5_10.ext E13
  have f13_20 := f5_11.ext E13
  have f13_21 := f5_12.ext E13
  have K13 : Keep h0 h13 [aT] := (K5).ext E13
  have Zh13 : n0 ≤ h13.size := Nat.le_trans Z0 K13.1
  have V13 : Arv Z h13 b13 kB .int (2 : Int32) [(.int (1 : Int32)), (.int (1 : Int32))] (.int (0 : Int32)) := A13
  refine own_back ?_ st13
  show own_Go p e below PO (T13.setTop (mkF m 42 #[.val (.ref aT), .val (.ref aA), .val (.ref aB), .val (.ref aR), .val .null, .unset, .unset] [(.ref b13), (.ref aT)]))
  obtain ⟨T22, X22, e22, st22⟩ := castY X13 hx hZ hown (hw _ (List.mem_of_getElem? (i := 18) rfl)) e13 (Ins.self Ex13) (g := (mkF m 42 #[.val (.ref aT), .val (.ref aA), .val (.ref aB), .val (.ref aR), .val .null, .unset, .unset] [(.ref b13), (.ref aT)])) rfl rfl (hb hby d1_42)
  refine own_back ?_ st22
  show own_Go p e below PO (T22.setTop (mkF m 45 #[.val (.ref aT), .val (.ref aA), .val (.ref aB), .val (.ref aR), .val .null, .unset, .unset] [(.ref b13), (.ref aT)]))
  obtain ⟨T23, h23, X23, e23, W23, st23⟩ := putF X22 hx hZ hown (host := "") (Or.inl (hw _ (List.mem_of_getElem? (i := 22) rfl))) Via.refl e22 f13_18 f13_16 (Or.inr ⟨(hw _ (List.mem_of_getElem? (i := 23) rfl)), rfl, hnm⟩) (hw _ (List.mem_of_getElem? (i := 3) rfl)) (ty := (.array .int)) (by decide) rfl rfl (g := (mkF m 45 #[.val (.ref aT), .val (.ref aA), .val (.ref aB), .val (.ref aR), .val .null, .unset, .unset] [(.ref b13), (.ref aT)])) rfl rfl (hb hby d1_45)
  have Fw23 := f13_18.same W23
  have f23_24 := f13_14.wr W23
  have f23_25 := f13_15.other W23 (Ne.symm ne_aT_b3)
  have f23_26 := f13_16.wr W23
  have f23_27 := f13_17.other W23 (Or.inr (slot_ne (Or.inr (hw _ (List.mem_of_getElem? (i := 21) rfl))) (Or.inr (hw _ (List.mem_of_getElem? (i := 23) rfl))) (by decide) (t := (.array .int)) (t' := (.array .int)) (by decide) (by decide)))
  have f23_28 := f13_19.other W23 (Or.inr (slot_ne (Or.inr (hw _ (List.mem_of_getElem? (i := 25) rfl))) (Or.inr (hw _ (List.mem_of_getElem? (i := 23) rfl))) (by decide) (t := (.array .int)) (t' := (.array .int)) (by decide) (by decide)))
  have f23_29 := f13_20.other W23 (Or.inr (slot_ne (Or.inr (hw _ (List.mem_of_getElem? (i := 48) rfl))) (Or.inr (hw _ (List.mem_of_getElem? (i := 23) rfl))) (by decide) (t := (.array .double)) (t' := (.array .int)) (by decide) (by decide)))
  have f23_30 := f13_21.other W23 (Or.inr (slot_ne (Or.inr (hw _ (List.mem_of_getElem? (i := 50) rfl))) (Or.inr (hw _ (List.mem_of_getElem? (i := 23) rfl))) (by decide) (t := (.array .double)) (t' := (.array .int)) (by decide) (by decide)))
  have f23_31 := Ex13.wr W23
  have f23_32 := V13.other W23 (Ne.symm ne_aT_b13)
  have K23 : Keep h0 h23 [aT] := (K13).wr W23 (Or.inl (by simp))
  have N23 := Fr.snoc X23 N5 gn_aT
  have Zh23 : n0 ≤ h23.size := Nat.le_trans Z0 K23.1
  refine own_back ?_ st23
  show own_Go p e below PO (T23.setTop (mkF m 48 #[.val (.ref aT), .val (.ref aA), .val (.ref aB), .val (.ref aR), .val .null, .unset, .unset] []))
  refine own_back ?_ (fun t k => XS.aloadN X23.here hx rfl (hb hby d1_48) rfl rfl k)
  show own_Go p e below PO (T23.setTop (mkF m 49 #[.val (.ref aT), .val (.ref aA), .val (.ref aB), .val (.ref aR), .val .null, .unset, .unset] [(.ref aT)]))
  refine own_back ?_ (fun t k => XS.aloadN X23.here hx rfl (hb hby d1_49) rfl rfl k)
  show own_Go p e below PO (T23.setTop (mkF m 50 #[.val (.ref aT), .val (.ref aA), .val (.ref aB), .val (.ref aR), .val .null, .unset, .unset] [(.ref aA), (.ref aT)]))
  refine own_back ?_ (own_len X23 hx hZ e23 (V_A.keep K23 (ninS nA nin0)) (g := (mkF m 50 #[.val (.ref aT), .val (.ref aA), .val (.ref aB), .val (.ref aR), .val .null, .unset, .unset] [(.ref aA), (.ref aT)])) rfl rfl (hb hby d1_50))
  show own_Go p e below PO (T23.setTop (mkF m 51 #[.val (.ref aT), .val (.ref aA), .val (.ref aB), .val (.ref aR), .val .null, .unset, .unset] [(.int (2 : Int32)), (.ref aT)]))
  obtain ⟨T33, h33, k33, X33, e33, E33, A33, Ex33, st33⟩ := newPE X23 hx hZ (hw _ (List.mem_of_getElem? (i := 0) rfl)) e23 (g := (mkF m 51 #[.val (.ref aT), .val (.ref aA), .val (.ref aB), .val (.ref aR), .val .null, .unset, .unset] [(.int (2 : Int32)), (.ref aT)])) rfl (hb hby d1_51) rfl (by decide) (cap := 2) (by decide) (by decide) (by decide) (by decide) (ad := "[I") (by decide)
  obtain ⟨b33, g33⟩ : ∃ z, z = h23.size := ⟨_, rfl⟩
  rw [← g33] at A33 Ex33 st33
  have ne_aA_b33 : aA ≠ b33 := Nat.ne_of_lt (Nat.lt_of_lt_of_le (V_A.keep K23 (ninS nA nin0)).lt (Nat.le_of_eq g33.symm))
  have ne_aB_b33 : aB ≠ b33 := Nat.ne_of_lt (Nat.lt_of_lt_of_le (V_B.keep K23 (ninS nB nin0)).lt (Nat.le_of_eq g33.symm))
  have ne_aR_b33 : aR ≠ b33 := Nat.ne_of_lt (Nat.lt_of_lt_of_le (V_R.keep K23 (ninS nR nin0)).lt (Nat.le_of_eq g33.symm))
  have ne_aT_b33 : aT ≠ b33 := Nat.ne_of_lt (Nat.lt_of_lt_of_le f23_26.lt (Nat.le_of_eq g33.symm))
  have ne_b13_b33 : b13 ≠ b33 := Nat.ne_of_lt (Nat.lt_of_lt_of_le f23_31.lt (Nat.le_of_eq g33.symm))
  have ne_b3_b33 : b3 ≠ b33 := Nat.ne_of_lt (Nat.lt_of_lt_of_le f23_24.lt (Nat.le_of_eq g33.symm))
  have sz_b33 : h0.size ≤ b33 := Nat.le_trans K23.1 (Nat.le_of_eq g33.symm)
  have gn_b33 : n0 ≤ b33 := Nat.le_trans Z0 sz_b33
  have f33_34 := f23_24.ext E33
  have f33_35 := f23_25.ext E33
  have f33_36 := f23_26.ext E33
  have f33_37 := f23_27.ext E33
  have f33_38 := Fw23.ext E33
  have f33_39 := f23_28.ext E33
  have f33_40 := f23_29.ext E33
  have f33_41 := f23_30.ext E33
  have f33_42 := f23_31.ext E33
  have f33_43 := f23_32.ext E33
  have K33 : Keep h0 h33 [aT] := (K23).ext E33
  have Zh33 : n0 ≤ h33.size := Nat.le_trans Z0 K33.1
  have V33 : Arv Z h33 b33 k33 .int (2 : Int32) [(.int (0 : Int32)), (.int (0 : Int32))] (.int (0 : Int32)) := (Arv.new A33 (by decide)).pad (pad_rep [] (.int (0 : Int32)) 2)
  refine own_back ?_ st33
  show own_Go p e below PO (T33.setTop (mkF m 53 #[.val (.ref aT), .val (.ref aA), .val (.ref aB), .val (.ref aR), .val .null, .unset, .unset] [(.ref b33), (.ref aT)]))
  obtain ⟨T44, h44, X44, e44, W44, st44⟩ := putF X33 hx hZ hown (host := "") (Or.inl (hw _ (List.mem_of_getElem? (i := 24) rfl))) Via.refl e33 f33_39 f33_36 (Or.inr ⟨(hw _ (List.mem_of_getElem? (i := 25) rfl)), rfl, hnm⟩) (hw _ (List.mem_of_getElem? (i := 3) rfl)) (ty := (.array .int)) (by decide) rfl rfl (g := (mkF m 53 #[.val (.ref aT), .val (.ref aA), .val (.ref aB), .val (.ref aR), .val .null, .unset, .unset] [(.ref b33), (.ref aT)])) rfl rfl (hb hby d1_53)
  have Fw44 := f33_39.same W44
  have f44_45 := f33_34.wr W44
  have f44_46 := f33_35.other W44 (Ne.symm ne_aT_b3)
  have f44_47 := f33_36.wr W44
  have f44_48 := f33_37.other W44 (Or.inr (slot_ne (Or.inr (hw _ (List.mem_of_getElem? (i := 21) rfl))) (Or.inr (hw _ (List.mem_of_getElem? (i := 25) rfl))) (by decide) (t := (.array .int)) (t' := (.array .int)) (by decide) (by decide)))
  have f44_49 := f33_38.other W44 (Or.inr (slot_ne (Or.inr (hw _ (List.mem_of_getElem? (i := 23) rfl))) (Or.inr (hw _ (List.mem_of_getElem? (i := 25) rfl))) (by decide) (t := (.array .int)) (t' := (.array .int)) (by decide) (by decide)))
  have f44_50 := f33_40.other W44 (Or.inr (slot_ne (Or.inr (hw _ (List.mem_of_getElem? (i := 48) rfl))) (Or.inr (hw _ (List.mem_of_getElem? (i := 25) rfl))) (by decide) (t := (.array .double)) (t' := (.array .int)) (by decide) (by decide)))
  have f44_51 := f33_41.other W44 (Or.inr (slot_ne (Or.inr (hw _ (List.mem_of_getElem? (i := 50) rfl))) (Or.inr (hw _ (List.mem_of_getElem? (i := 25) rfl))) (by decide) (t := (.array .double)) (t' := (.array .int)) (by decide) (by decide)))
  have f44_52 := f33_42.wr W44
  have f44_53 := f33_43.other W44 (Ne.symm ne_aT_b13)
  have f44_54 := Ex33.wr W44
  have f44_55 := V33.other W44 (Ne.symm ne_aT_b33)
  have K44 : Keep h0 h44 [aT] := (K33).wr W44 (Or.inl (by simp))
  have N44 := Fr.snoc X44 N23 gn_aT
  have Zh44 : n0 ≤ h44.size := Nat.le_trans Z0 K44.1
  refine own_back ?_ st44
  show own_Go p e below PO (T44.setTop (mkF m 56 #[.val (.ref aT), .val (.ref aA), .val (.ref aB), .val (.ref aR), .val .null, .unset, .unset] []))
  refine own_back ?_ (fun t k => XS.iconst X44.here hx rfl (hb hby d1_56) k)
  show own_Go p e below PO (T44.setTop (mkF m 57 #[.val (.ref aT), .val (.ref aA), .val (.ref aB), .val (.ref aR), .val .null, .unset, .unset] [(.int (1 : Int32))]))
  refine own_back ?_ (fun t k => XS.istore X44.here hx rfl (hb hby d1_57) rfl (l' := #[.val (.ref aT), .val (.ref aA), .val (.ref aB), .val (.ref aR), .val .null, .val (.int (1 : Int32)), .unset]) rfl k)
  show own_Go p e below PO (T44.setTop (mkF m 59 #[.val (.ref aT), .val (.ref aA), .val (.ref aB), .val (.ref aR), .val .null, .val (.int (1 : Int32)), .unset] []))
  refine own_back ?_ (fun t k => XS.aloadN X44.here hx rfl (hb hby d1_59) rfl rfl k)
  show own_Go p e below PO (T44.setTop (mkF m 60 #[.val (.ref aT), .val (.ref aA), .val (.ref aB), .val (.ref aR), .val .null, .val (.int (1 : Int32)), .unset] [(.ref aA)]))
  refine own_back ?_ (own_len X44 hx hZ e44 (V_A.keep K44 (ninS nA nin0)) (g := (mkF m 60 #[.val (.ref aT), .val (.ref aA), .val (.ref aB), .val (.ref aR), .val .null, .val (.int (1 : Int32)), .unset] [(.ref aA)])) rfl rfl (hb hby d1_60))
  show own_Go p e below PO (T44.setTop (mkF m 61 #[.val (.ref aT), .val (.ref aA), .val (.ref aB), .val (.ref aR), .val .null, .val (.int (1 : Int32)), .unset] [(.int (2 : Int32))]))
  refine own_back ?_ (fun t k => XS.iconst X44.here hx rfl (hb hby d1_61) k)
  show own_Go p e below PO (T44.setTop (mkF m 62 #[.val (.ref aT), .val (.ref aA), .val (.ref aB), .val (.ref aR), .val .null, .val (.int (1 : Int32)), .unset] [(.int (1 : Int32)), (.int (2 : Int32))]))
  refine own_back ?_ (fun t k => XS.isub X44.here hx rfl (hb hby d1_62) rfl k)
  show own_Go p e below PO (T44.setTop (mkF m 63 #[.val (.ref aT), .val (.ref aA), .val (.ref aB), .val (.ref aR), .val .null, .val (.int (1 : Int32)), .unset] [(.int (1 : Int32))]))
  refine own_back ?_ (fun t k => XS.istore X44.here hx rfl (hb hby d1_63) rfl (l' := #[.val (.ref aT), .val (.ref aA), .val (.ref aB), .val (.ref aR), .val .null, .val (.int (1 : Int32)), .val (.int (1 : Int32))]) rfl k)
  show own_Go p e below PO (T44.setTop (mkF m 65 #[.val (.ref aT), .val (.ref aA), .val (.ref aB), .val (.ref aR), .val .null, .val (.int (1 : Int32)), .val (.int (1 : Int32))] []))
  refine own_back ?_ (fun t k => XS.iload X44.here hx rfl (hb hby d1_65) rfl k)
  show own_Go p e below PO (T44.setTop (mkF m 67 #[.val (.ref aT), .val (.ref aA), .val (.ref aB), .val (.ref aR), .val .null, .val (.int (1 : Int32)), .val (.int (1 : Int32))] [(.int (1 : Int32))]))
  have hd67_56 : ¬ ((1 : Int32) < (0 : Int32)) := (by decide)
  refine own_back ?_ (fun t k => XS.ifNo X44.here hx rfl (hb hby d1_67) rfl ((if0 _ _).trans (flt hd67_56).1) k)
  show own_Go p e below PO (T44.setTop (mkF m 70 #[.val (.ref aT), .val (.ref aA), .val (.ref aB), .val (.ref aR), .val .null, .val (.int (1 : Int32)), .val (.int (1 : Int32))] []))
  refine own_back ?_ (fun t k => XS.aloadN X44.here hx rfl (hb hby d1_70) rfl rfl k)
  show own_Go p e below PO (T44.setTop (mkF m 71 #[.val (.ref aT), .val (.ref aA), .val (.ref aB), .val (.ref aR), .val .null, .val (.int (1 : Int32)), .val (.int (1 : Int32))] [(.ref aT)]))
  obtain ⟨T57, X57, e57, st57⟩ := getF X44 hx hZ hown (host := "") (Or.inl (hw _ (List.mem_of_getElem? (i := 24) rfl))) Via.refl e44 Fw44 (g := (mkF m 71 #[.val (.ref aT), .val (.ref aA), .val (.ref aB), .val (.ref aR), .val .null, .val (.int (1 : Int32)), .val (.int (1 : Int32))] [(.ref aT)])) rfl rfl (hb hby d1_71)
  refine own_back ?_ st57
  show own_Go p e below PO (T57.setTop (mkF m 74 #[.val (.ref aT), .val (.ref aA), .val (.ref aB), .val (.ref aR), .val .null, .val (.int (1 : Int32)), .val (.int (1 : Int32))] [(.ref b33)]))
  refine own_back ?_ (fun t k => XS.iload X57.here hx rfl (hb hby d1_74) rfl k)
  show own_Go p e below PO (T57.setTop (mkF m 76 #[.val (.ref aT), .val (.ref aA), .val (.ref aB), .val (.ref aR), .val .null, .val (.int (1 : Int32)), .val (.int (1 : Int32))] [(.int (1 : Int32)), (.ref b33)]))
  refine own_back ?_ (fun t k => XS.iload X57.here hx rfl (hb hby d1_76) rfl k)
  show own_Go p e below PO (T57.setTop (mkF m 78 #[.val (.ref aT), .val (.ref aA), .val (.ref aB), .val (.ref aR), .val .null, .val (.int (1 : Int32)), .val (.int (1 : Int32))] [(.int (1 : Int32)), (.int (1 : Int32)), (.ref b33)]))
  obtain ⟨T58, h58, X58, e58, W58, V58, st58⟩ := own_stI X57 hx hZ e57 f44_55 (j := (1 : Int32)) ⟨by decide, by decide⟩ (i := 1) rfl (by show 1 < 2; decide) (g := (mkF m 78 #[.val (.ref aT), .val (.ref aA), .val (.ref aB), .val (.ref aR), .val .null, .val (.int (1 : Int32)), .val (.int (1 : Int32))] [(.int (1 : Int32)), (.int (1 : Int32)), (.ref b33)])) rfl rfl (hb hby d1_78)
  replace V58 : Arv Z h58 b33 k33 .int (2 : Int32) [(.int (0 : Int32)), (.int (1 : Int32))] (.int (0 : Int32)) := V58
  have f58_59 := f44_45.wr W58
  have f58_60 := f44_46.other W58 ne_b3_b33
  have f58_61 := f44_47.wr W58
  have f58_62 := f44_48.other W58 (Or.inl ne_aT_b33)
  have f58_63 := f44_49.other W58 (Or.inl ne_aT_b33)
  have f58_64 := Fw44.other W58 (Or.inl ne_aT_b33)
  have f58_65 := f44_50.other W58 (Or.inl ne_aT_b33)
  have f58_66 := f44_51.other W58 (Or.inl ne_aT_b33)
  have f58_67 := f44_52.wr W58
  have f58_68 := f44_53.other W58 ne_b13_b33
  have f58_69 := f44_54.wr W58
  have K58 : Keep h0 h58 [aT] := (K44).wr W58 (Or.inr sz_b33)
  have N58 := Fr.snoc X58 N44 gn_b33
  have Zh58 : n0 ≤ h58.size := Nat.le_trans Z0 K58.1
  refine own_back ?_ st58
  show own_Go p e below PO (T58.setTop (mkF m 79 #[.val (.ref aT), .val (.ref aA), .val (.ref aB), .val (.ref aR), .val .null, .val (.int (1 : Int32)), .val (.int (1 : Int32))] []))
  refine own_back ?_ (fun t k => XS.iload X58.here hx rfl (hb hby d1_79) rfl k)
  show own_Go p e below PO (T58.setTop (mkF m 81 #[.val (.ref aT), .val (.ref aA), .val (.ref aB), .val (.ref aR), .val .null, .val (.int (1 : Int32)), .val (.int (1 : Int32))] [(.int (1 : Int32))]))
  refine own_back ?_ (fun t k => XS.aloadN X58.here hx rfl (hb hby d1_81) rfl rfl k)
  show own_Go p e below PO (T58.setTop (mkF m 82 #[.val (.ref aT), .val (.ref aA), .val (.ref aB), .val (.ref aR), .val .null, .val (.int (1 : Int32)), .val (.int (1 : Int32))] [(.ref aB), (.int (1 : Int32))]))
  refine own_back ?_ (fun t k => XS.iload X58.here hx rfl (hb hby d1_82) rfl k)
  show own_Go p e below PO (T58.setTop (mkF m 84 #[.val (.ref aT), .val (.ref aA), .val (.ref aB), .val (.ref aR), .val .null, .val (.int (1 : Int32)), .val (.int (1 : Int32))] [(.int (1 : Int32)), (.ref aB), (.int (1 : Int32))]))
  refine own_back ?_ (own_ldI X58 hx hZ e58 (V_B.keep K58 (ninS nB nin0)) (j := (1 : Int32)) (v := (.int (1 : Int32))) ⟨by decide, by decide⟩ rfl (g := (mkF m 84 #[.val (.ref aT), .val (.ref aA), .val (.ref aB), .val (.ref aR), .val .null, .val (.int (1 : Int32)), .val (.int (1 : Int32))] [(.int (1 : Int32)), (.ref aB), (.int (1 : Int32))])) rfl rfl (hb hby d1_84))
  show own_Go p e below PO (T58.setTop (mkF m 85 #[.val (.ref aT), .val (.ref aA), .val (.ref aB), .val (.ref aR), .val .null, .val (.int (1 : Int32)), .val (.int (1 : Int32))] [(.int (1 : Int32)), (.int (1 : Int32))]))
  obtain ⟨_, _, ⟨T70, L70, k70, n70⟩, -, X70, ⟨Lc70, hQ70, l70, y70, z70⟩, st70⟩ := Jvm.LawKit.callS X58 hx (y := (⟨"java/lang/Math", "multiplyExact", "(II)I"⟩ : MethodName)) hown (mvT hZ (hw _ (List.mem_of_getElem? (i := 26) rfl))) (mvT hZ (hw _ (List.mem_of_getElem? (i := 27) rfl))) (mvT hZ (hw _ (List.mem_of_getElem? (i := 28) rfl))) (mvT hZ (hw _ (List.mem_of_getElem? (i := 29) rfl))) (by decide) (backOf (W := 0) (rmMul_1_1 l Z a0 hw []   h58 n0 Zh58 ) hZ (hw _ (List.mem_of_getElem? (i := 29) rfl)) (hw _ (List.mem_of_getElem? (i := 28) rfl)) (by decide) (by decide)) (g := (mkF m 85 #[.val (.ref aT), .val (.ref aA), .val (.ref aB), .val (.ref aR), .val .null, .val (.int (1 : Int32)), .val (.int (1 : Int32))] [(.int (1 : Int32)), (.int (1 : Int32))])) rfl (by rw [hml]; rfl) (argsL := [(.int (1 : Int32)), (.int (1 : Int32))]) (rest := []) (lenOf pd_0 rfl) rfl (by show 2 * 0 + _ ≤ _; exact Nat.le_of_eq rfl) (hb hby d1_85) (fun _ _ => ⟨rfl, e58, (by decide : 3 + 0 ≤ _), (by decide : 6 + 0 ≤ _)⟩)
  dsimp only [Pt.U, Pt.locs, Pt.cells, Pt.slots] at X70 l70 y70 z70 st70 hQ70
  subst l70 y70 z70
  obtain ⟨rfl, N70q, e70⟩ := hQ70
  have N70 := Fr.app N58 N70q
  refine own_back ?_ st70
  show own_Go p e below PO (T70.setTop (mkF m 88 #[.val (.ref aT), .val (.ref aA), .val (.ref aB), .val (.ref aR), .val .null, .val (.int (1 : Int32)), .val (.int (1 : Int32))] [(.int (1 : Int32))]))
  refine own_back ?_ (fun t k => XS.istore X70.here hx rfl (hb hby d1_88) rfl (l' := #[.val (.ref aT), .val (.ref aA), .val (.ref aB), .val (.ref aR), .val .null, .val (.int (1 : Int32)), .val (.int (1 : Int32))]) rfl k)
  show own_Go p e below PO (T70.setTop (mkF m 90 #[.val (.ref aT), .val (.ref aA), .val (.ref aB), .val (.ref aR), .val .null, .val (.int (1 : Int32)), .val (.int (1 : Int32))] []))
  refine own_back ?_ (fun t k => XS.iinc X70.here hx rfl (hb hby d1_90) rfl (l' := #[.val (.ref aT), .val (.ref aA), .val (.ref aB), .val (.ref aR), .val .null, .val (.int (1 : Int32)), .val (.int (0 : Int32))]) rfl k)
  show own_Go p e below PO (T70.setTop (mkF m 93 #[.val (.ref aT), .val (.ref aA), .val (.ref aB), .val (.ref aR), .val .null, .val (.int (1 : Int32)), .val (.int (0 : Int32))] []))
  refine own_back ?_ (fun t k => XS.goto X70.here hx rfl (pc0 := 93) (pc' := 65) rfl (hb hby d1_93) (by decide) (by decide) k)
  show own_Go p e below PO (T70.setTop (mkF m 65 #[.val (.ref aT), .val (.ref aA), .val (.ref aB), .val (.ref aR), .val .null, .val (.int (1 : Int32)), .val (.int (0 : Int32))] []))
  refine own_back ?_ (fun t k => XS.iload X70.here hx rfl (hb hby d1_65) rfl k)
  show own_Go p e below PO (T70.setTop (mkF m 67 #[.val (.ref aT), .val (.ref aA), .val (.ref aB), .val (.ref aR), .val .null, .val (.int (1 : Int32)), .val (.int (0 : Int32))] [(.int (0 : Int32))]))
  refine own_back ?_ (fun t k => XS.ifNo X70.here hx rfl (hb hby d1_67) rfl ((if0 _ _).trans (flt Int32.lt_irrefl).1) k)
  show own_Go p e below PO (T70.setTop (mkF m 70 #[.val (.ref aT), .val (.ref aA), .val (.ref aB), .val (.ref aR), .val .null, .val (.int (1 : Int32)), .val (.int (0 : Int32))] []))
  refine own_back ?_ (fun t k => XS.aloadN X70.here hx rfl (hb hby d1_70) rfl rfl k)
  show own_Go p e below PO (T70.setTop (mkF m 71 #[.val (.ref aT), .val (.ref aA), .val (.ref aB), .val (.ref aR), .val .null, .val (.int (1 : Int32)), .val (.int (0 : Int32))] [(.ref aT)]))
  obtain ⟨T71, X71, e71, st71⟩ := getF X70 hx hZ hown (host := "") (Or.inl (hw _ (List.mem_of_getElem? (i := 24) rfl))) Via.refl e70 f58_64 (g := (mkF m 71 #[.val (.ref aT), .val (.ref aA), .val (.ref aB), .val (.ref aR), .val .null, .val (.int (1 : Int32)), .val (.int (0 : Int32))] [(.ref aT)])) rfl rfl (hb hby d1_71)
  refine own_back ?_ st71
  show own_Go p e below PO (T71.setTop (mkF m 74 #[.val (.ref aT), .val (.ref aA), .val (.ref aB), .val (.ref aR), .val .null, .val (.int (1 : Int32)), .val (.int (0 : Int32))] [(.ref b33)]))
  refine own_back ?_ (fun t k => XS.iload X71.here hx rfl (hb hby d1_74) rfl k)
  show own_Go p e below PO (T71.setTop (mkF m 76 #[.val (.ref aT), .val (.ref aA), .val (.ref aB), .val (.ref aR), .val .null, .val (.int (1 : Int32)), .val (.int (0 : Int32))] [(.int (0 : Int32)), (.ref b33)]))
  refine own_back ?_ (fun t k => XS.iload X71.here hx rfl (hb hby d1_76) rfl k)
  show own_Go p e below PO (T71.setTop (mkF m 78 #[.val (.ref aT), .val (.ref aA), .val (.ref aB), .val (.ref aR), .val .null, .val (.int (1 : Int32)), .val (.int (0 : Int32))] [(.int (1 : Int32)), (.int (0 : Int32)), (.ref b33)]))
  obtain ⟨T72, h72, X72, e72, W72, V72, st72⟩ := own_stI X71 hx hZ e71 V58 (j := (0 : Int32)) ⟨by decide, by decide⟩ (i := 0) rfl (by show 0 < 2; decide) (g := (mkF m 78 #[.val (.ref aT), .val (.ref aA), .val (.ref aB), .val (.ref aR), .val .null, .val (.int (1 : Int32)), .val (.int (0 : Int32))] [(.int (1 : Int32)), (.int (0 : Int32)), (.ref b33)])) rfl rfl (hb hby d1_78)
  replace V72 : Arv Z h72 b33 k33 .int (2 : Int32) [(.int (1 : Int32)), (.int (1 : Int32))] (.int (0 : Int32)) := V72
  have f72_73 := f58_59.wr W72
  have f72_74 := f58_60.other W72 ne_b3_b33
  have f72_75 := f58_61.wr W72
  have f72_76 := f58_62.other W72 (Or.inl ne_aT_b33)
  have f72_77 := f58_63.other W72 (Or.inl ne_aT_b33)
  have f72_78 := f58_64.other W72 (Or.inl ne_aT_b33)
  have f72_79 := f58_65.other W72 (Or.inl ne_aT_b33)
  have f72_80 := f58_66.other W72 (Or.inl ne_aT_b33)
  have f72_81 := f58_67.wr W72
  have f72_82 := f58_68.other W72 ne_b13_b33
  have f72_83 := f58_69.wr W72
  have K72 : Keep h0 h72 [aT] := (K58).wr W72 (Or.inr sz_b33)
  have N72 := Fr.snoc X72 N70 gn_b33
  have Zh72 : n0 ≤ h72.size := Nat.le_trans Z0 K72.1
  refine own_back ?_ st72
  show own_Go p e below PO (T72.setTop (mkF m 79 #[.val (.ref aT), .val (.ref aA), .val (.ref aB), .val (.ref aR), .val .null, .val (.int (1 : Int32)), .val (.int (0 : Int32))] []))
  refine own_back ?_ (fun t k => XS.iload X72.here hx rfl (hb hby d1_79) rfl k)
  show own_Go p e below PO (T72.setTop (mkF m 81 #[.val (.ref aT), .val (.ref aA), .val (.ref aB), .val (.ref aR), .val .null, .val (.int (1 : Int32)), .val (.int (0 : Int32))] [(.int (1 : Int32))]))
  refine own_back ?_ (fun t k => XS.aloadN X72.here hx rfl (hb hby d1_81) rfl rfl k)
  show own_Go p e below PO (T72.setTop (mkF m 82 #[.val (.ref aT), .val (.ref aA), .val (.ref aB), .val (.ref aR), .val .null, .val (.int (1 : Int32)), .val (.int (0 : Int32))] [(.ref aB), (.int (1 : Int32))]))
  refine own_back ?_ (fun t k => XS.iload X72.here hx rfl (hb hby d1_82) rfl k)
  show own_Go p e below PO (T72.setTop (mkF m 84 #[.val (.ref aT), .val (.ref aA), .val (.ref aB), .val (.ref aR), .val .null, .val (.int (1 : Int32)), .val (.int (0 : Int32))] [(.int (0 : Int32)), (.ref aB), (.int (1 : Int32))]))
  refine own_back ?_ (own_ldI X72 hx hZ e72 (V_B.keep K72 (ninS nB nin0)) (j := (0 : Int32)) (v := (.int (1 : Int32))) ⟨by decide, by decide⟩ rfl (g := (mkF m 84 #[.val (.ref aT), .val (.ref aA), .val (.ref aB), .val (.ref aR), .val .null, .val (.int (1 : Int32)), .val (.int (0 : Int32))] [(.int (0 : Int32)), (.ref aB), (.int (1 : Int32))])) rfl rfl (hb hby d1_84))
  show own_Go p e below PO (T72.setTop (mkF m 85 #[.val (.ref aT), .val (.ref aA), .val (.ref aB), .val (.ref aR), .val .null, .val (.int (1 : Int32)), .val (.int (0 : Int32))] [(.int (1 : Int32)), (.int (1 : Int32))]))
  obtain ⟨_, _, ⟨T84, L84, k84, n84⟩, -, X84, ⟨Lc84, hQ84, l84, y84, z84⟩, st84⟩ := Jvm.LawKit.callS X72 hx (y := (⟨"java/lang/Math", "multiplyExact", "(II)I"⟩ : MethodName)) hown (mvT hZ (hw _ (List.mem_of_getElem? (i := 26) rfl))) (mvT hZ (hw _ (List.mem_of_getElem? (i := 27) rfl))) (mvT hZ (hw _ (List.mem_of_getElem? (i := 28) rfl))) (mvT hZ (hw _ (List.mem_of_getElem? (i := 29) rfl))) (by decide) (backOf (W := 0) (rmMul_1_1 l Z a0 hw []   h72 n0 Zh72 ) hZ (hw _ (List.mem_of_getElem? (i := 29) rfl)) (hw _ (List.mem_of_getElem? (i := 28) rfl)) (by decide) (by decide)) (g := (mkF m 85 #[.val (.ref aT), .val (.ref aA), .val (.ref aB), .val (.ref aR), .val .null, .val (.int (1 : Int32)), .val (.int (0 : Int32))] [(.int (1 : Int32)), (.int (1 : Int32))])) rfl (by rw [hml]; rfl) (argsL := [(.int (1 : Int32)), (.int (1 : Int32))]) (rest := []) (lenOf pd_0 rfl) rfl (by show 2 * 0 + _ ≤ _; exact Nat.le_of_eq rfl) (hb hby d1_85) (fun _ _ => ⟨rfl, e72, (by decide : 3 + 0 ≤ _), (by decide : 6 + 0 ≤ _)⟩)
  dsimp only [Pt.U, Pt.locs, Pt.cells, Pt.slots] at X84 l84 y84 z84 st84 hQ84
  subst l84 y84 z84
  obtain ⟨rfl, N84q, e84⟩ := hQ84
  have N84 := Fr.app N72 N84q
  refine own_back ?_ st84
  show own_Go p e below PO (T84.setTop (mkF m 88 #[.val (.ref aT), .val (.ref aA), .val (.ref aB), .val (.ref aR), .val .null, .val (.int (1 : Int32)), .val (.int (0 : Int32))] [(.int (1 : Int32))]))
  refine own_back ?_ (fun t k => XS.istore X84.here hx rfl (hb hby d1_88) rfl (l' := #[.val (.ref aT), .val (.ref aA), .val (.ref aB), .val (.ref aR), .val .null, .val (.int (1 : Int32)), .val (.int (0 : Int32))]) rfl k)
  show own_Go p e below PO (T84.setTop (mkF m 90 #[.val (.ref aT), .val (.ref aA), .val (.ref aB), .val (.ref aR), .val .null, .val (.int (1 : Int32)), .val (.int (0 : Int32))] []))
  refine own_back ?_ (fun t k => XS.iinc X84.here hx rfl (hb hby d1_90) rfl (l' := #[.val (.ref aT), .val (.ref aA), .val (.ref aB), .val (.ref aR), .val .null, .val (.int (1 : Int32)), .val (.int (-1 : Int32))]) rfl k)
  show own_Go p e below PO (T84.setTop (mkF m 93 #[.val (.ref aT), .val (.ref aA), .val (.ref aB), .val (.ref aR), .val .null, .val (.int (1 : Int32)), .val (.int (-1 : Int32))] []))
  refine own_back ?_ (fun t k => XS.goto X84.here hx rfl (pc0 := 93) (pc' := 65) rfl (hb hby d1_93) (by decide) (by decide) k)
  show own_Go p e below PO (T84.setTop (mkF m 65 #[.val (.ref aT), .val (.ref aA), .val (.ref aB), .val (.ref aR), .val .null, .val (.int (1 : Int32)), .val (.int (-1 : Int32))] []))
  refine own_back ?_ (fun t k => XS.iload X84.here hx rfl (hb hby d1_65) rfl k)
  show own_Go p e below PO (T84.setTop (mkF m 67 #[.val (.ref aT), .val (.ref aA), .val (.ref aB), .val (.ref aR), .val .null, .val (.int (1 : Int32)), .val (.int (-1 : Int32))] [(.int (-1 : Int32))]))
  have hd67_85 : (-1 : Int32) < (0 : Int32) := (by decide)
  refine own_back ?_ (fun t k => XS.ifYes X84.here hx rfl (pc0 := 67) (pc' := 96) rfl (hb hby d1_67) rfl ((if0 _ _).trans (tlt hd67_85).1) (by decide) (by decide) k)
  show own_Go p e below PO (T84.setTop (mkF m 96 #[.val (.ref aT), .val (.ref aA), .val (.ref aB), .val (.ref aR), .val .null, .val (.int (1 : Int32)), .val (.int (-1 : Int32))] []))
  refine own_back ?_ (fun t k => XS.aloadN X84.here hx rfl (hb hby d1_96) rfl rfl k)
  show own_Go p e below PO (T84.setTop (mkF m 97 #[.val (.ref aT), .val (.ref aA), .val (.ref aB), .val (.ref aR), .val .null, .val (.int (1 : Int32)), .val (.int (-1 : Int32))] [(.ref aT)]))
  refine own_back ?_ (fun t k => XS.aloadN X84.here hx rfl (hb hby d1_97) rfl rfl k)
  show own_Go p e below PO (T84.setTop (mkF m 98 #[.val (.ref aT), .val (.ref aA), .val (.ref aB), .val (.ref aR), .val .null, .val (.int (1 : Int32)), .val (.int (-1 : Int32))] [(.ref aR), (.ref aT)]))
  refine own_back ?_ (fun t k => XS.iload X84.here hx rfl (hb hby d1_98) rfl k)
  show own_Go p e below PO (T84.setTop (mkF m 100 #[.val (.ref aT), .val (.ref aA), .val (.ref aB), .val (.ref aR), .val .null, .val (.int (1 : Int32)), .val (.int (-1 : Int32))] [(.int (1 : Int32)), (.ref aR), (.ref aT)]))
  obtain ⟨aS86, T86, h86, k86, X86, e86, E86, hS86, hk86, hZ, hown, st86⟩ := ldcS (s := s) (vm0 := s.vm) X84 hx hZ hown (hw _ (List.mem_of_getElem? (i := 30) rfl)) (own_wS hw) e84 hS0 (Nat.zero_le _) (g := (mkF m 100 #[.val (.ref aT), .val (.ref aA), .val (.ref aB), .val (.ref aR), .val .null, .val (.int (1 : Int32)), .val (.int (-1 : Int32))] [(.int (1 : Int32)), (.ref aR), (.ref aT)])) rfl (hb hby d1_100) (n := 28) (by decide) (by decide) (by decide) (by decide)
  have f86_87 := f72_73.ext E86
  have f86_88 := f72_74.ext E86
  have f86_89 := f72_75.ext E86
  have f86_90 := f72_76.ext E86
  have f86_91 := f72_77.ext E86
  have f86_92 := f72_78.ext E86
  have f86_93 := f72_79.ext E86
  have f86_94 := f72_80.ext E86
  have f86_95 := f72_81.ext E86
  have f86_96 := f72_82.ext E86
  have f86_97 := f72_83.ext E86
  have f86_98 := V72.ext E86
  have K86 : Keep h0 h86 [aT] := (K72).ext E86
  have Zh86 : n0 ≤ h86.size := Nat.le_trans Z0 K86.1
  refine own_back ?_ st86
  show own_Go p e below PO (T86.setTop (mkF m 102 #[.val (.ref aT), .val (.ref aA), .val (.ref aB), .val (.ref aR), .val .null, .val (.int (1 : Int32)), .val (.int (-1 : Int32))] [(.ref aS86), (.int (1 : Int32)), (.ref aR), (.ref aT)]))
  obtain ⟨_, _, ⟨T99, L99, k99, n99⟩, -, X99, ⟨Lc99, hQ99, l99, y99, z99⟩, st99⟩ := Jvm.LawKit.callS X86 hx (y := (⟨"com/example/nearbound/nearbound/dcop/Constraint", "checkTable", "([DILjava/lang/String;)[D"⟩ : MethodName)) hown (mvT hZ (hw _ (List.mem_of_getElem? (i := 38) rfl))) (mvT hZ (hw _ (List.mem_of_getElem? (i := 39) rfl))) (mvT hZ (hw _ (List.mem_of_getElem? (i := 4) rfl))) (mvT hZ (hw _ (List.mem_of_getElem? (i := 40) rfl))) (by decide) (backOf (W := 1) (rmTab l Z a0 hw [] aR aS86 kR u0 h86 n0 Zh86 (E_R.keep K86) (V_R.keep K86 (ninS nR nin0))) hZ (hw _ (List.mem_of_getElem? (i := 40) rfl)) (hw _ (List.mem_of_getElem? (i := 4) rfl)) (by decide) (by decide)) (g := (mkF m 102 #[.val (.ref aT), .val (.ref aA), .val (.ref aB), .val (.ref aR), .val .null, .val (.int (1 : Int32)), .val (.int (-1 : Int32))] [(.ref aS86), (.int (1 : Int32)), (.ref aR), (.ref aT)])) rfl (by rw [hml]; rfl) (argsL := [(.ref aR), (.int (1 : Int32)), (.ref aS86)]) (rest := [(.ref aT)]) (lenOf pd_1 rfl) rfl (by show 2 * 0 + _ ≤ _; exact Nat.le_of_eq rfl) (hb hby d1_102) (fun _ _ => ⟨rfl, e86, (by decide : 5 + 1 ≤ _), (by decide : 38 + 1 ≤ _)⟩)
  dsimp only [Pt.U, Pt.locs, Pt.cells, Pt.slots] at X99 l99 y99 z99 st99 hQ99
  subst l99 y99 z99
  obtain ⟨aN99, rfl, N99q, Kc99, sz99, EN99, VN99⟩ := hQ99
  have N99 := Fr.app N84 N99q
  have ne_aA_aN99 : aA ≠ aN99 := Nat.ne_of_lt (Nat.lt_of_lt_of_le (V_A.keep K86 (ninS nA nin0)).lt sz99)
  have ne_aB_aN99 : aB ≠ aN99 := Nat.ne_of_lt (Nat.lt_of_lt_of_le (V_B.keep K86 (ninS nB nin0)).lt sz99)
  have ne_aR_aN99 : aR ≠ aN99 := Nat.ne_of_lt (Nat.lt_of_lt_of_le (V_R.keep K86 (ninS nR nin0)).lt sz99)
  have ne_aT_aN99 : aT ≠ aN99 := Nat.ne_of_lt (Nat.lt_of_lt_of_le f86_89.lt sz99)
  have ne_b13_aN99 : b13 ≠ aN99 := Nat.ne_of_lt (Nat.lt_of_lt_of_le f86_95.lt sz99)
  have ne_b3_aN99 : b3 ≠ aN99 := Nat.ne_of_lt (Nat.lt_of_lt_of_le f86_87.lt sz99)
  have ne_b33_aN99 : b33 ≠ aN99 := Nat.ne_of_lt (Nat.lt_of_lt_of_le f86_97.lt sz99)
  have sz_aN99 : h0.size ≤ aN99 := Nat.le_trans K86.1 sz99
  have gn_aN99 : n0 ≤ aN99 := Nat.le_trans Z0 sz_aN99
  have f99_100 := f86_87.keep Kc99
  have f99_101 := f86_88.keep Kc99 nin0
  have f99_102 := f86_89.keep Kc99
  have f99_103 := f86_90.keep Kc99 nin0
  have f99_104 := f86_91.keep Kc99 nin0
  have f99_105 := f86_92.keep Kc99 nin0
  have f99_106 := f86_93.keep Kc99 nin0
  have f99_107 := f86_94.keep Kc99 nin0
  have f99_108 := f86_95.keep Kc99
  have f99_109 := f86_96.keep Kc99 nin0
  have f99_110 := f86_97.keep Kc99
  have f99_111 := f86_98.keep Kc99 nin0
  have K99 : Keep h0 T99.heap [aT] := (K86).trans Kc99 all0
  have Zh99 : n0 ≤ T99.heap.size := Nat.le_trans Z0 K99.1
  have hk99 := Nat.le_trans hk86 Kc99.1
  refine own_back ?_ st99
  show own_Go p e below PO (T99.setTop (mkF m 105 #[.val (.ref aT), .val (.ref aA), .val (.ref aB), .val (.ref aR), .val .null, .val (.int (1 : Int32)), .val (.int (-1 : Int32))] [(.ref aN99), (.ref aT)]))
  obtain ⟨T112, h112, X112, e112, W112, st112⟩ := putF X99 hx hZ hown (host := "") (Or.inl (hw _ (List.mem_of_getElem? (i := 47) rfl))) Via.refl rfl f99_106 f99_102 (Or.inr ⟨(hw _ (List.mem_of_getElem? (i := 48) rfl)), rfl, hnm⟩) (hw _ (List.mem_of_getElem? (i := 3) rfl)) (ty := (.array .double)) (by decide) rfl rfl (g := (mkF m 105 #[.val (.ref aT), .val (.ref aA), .val (.ref aB), .val (.ref aR), .val .null, .val (.int (1 : Int32)), .val (.int (-1 : Int32))] [(.ref aN99), (.ref aT)])) rfl rfl (hb hby d1_105)
  have Fw112 := f99_106.same W112
  have f112_113 := f99_100.wr W112
  have f112_114 := f99_101.other W112 (Ne.symm ne_aT_b3)
  have f112_115 := f99_102.wr W112
  have f112_116 := f99_103.other W112 (Or.inr (slot_ne (Or.inr (hw _ (List.mem_of_getElem? (i := 21) rfl))) (Or.inr (hw _ (List.mem_of_getElem? (i := 48) rfl))) (by decide) (t := (.array .int)) (t' := (.array .double)) (by decide) (by decide)))
  have f112_117 := f99_104.other W112 (Or.inr (slot_ne (Or.inr (hw _ (List.mem_of_getElem? (i := 23) rfl))) (Or.inr (hw _ (List.mem_of_getElem? (i := 48) rfl))) (by decide) (t := (.array .int)) (t' := (.array .double)) (by decide) (by decide)))
  have f112_118 := f99_105.other W112 (Or.inr (slot_ne (Or.inr (hw _ (List.mem_of_getElem? (i := 25) rfl))) (Or.inr (hw _ (List.mem_of_getElem? (i := 48) rfl))) (by decide) (t := (.array .int)) (t' := (.array .double)) (by decide) (by decide)))
  have f112_119 := f99_107.other W112 (Or.inr (slot_ne (Or.inr (hw _ (List.mem_of_getElem? (i := 50) rfl))) (Or.inr (hw _ (List.mem_of_getElem? (i := 48) rfl))) (by decide) (t := (.array .double)) (t' := (.array .double)) (by decide) (by decide)))
  have f112_120 := f99_108.wr W112
  have f112_121 := f99_109.other W112 (Ne.symm ne_aT_b13)
  have f112_122 := f99_110.wr W112
  have f112_123 := f99_111.other W112 (Ne.symm ne_aT_b33)
  have f112_124 := EN99.wr W112
  have f112_125 := VN99.other W112 (Ne.symm ne_aT_aN99)
  have K112 : Keep h0 h112 [aT] := (K99).wr W112 (Or.inl (by simp))
  have N112 := Fr.snoc X112 N99 gn_aT
  have Zh112 : n0 ≤ h112.size := Nat.le_trans Z0 K112.1
  have hk112 := Nat.le_trans hk99 (Keep.of_wr W112).1
  refine own_back ?_ st112
  show own_Go p e below PO (T112.setTop (mkF m 108 #[.val (.ref aT), .val (.ref aA), .val (.ref aB), .val (.ref aR), .val .null, .val (.int (1 : Int32)), .val (.int (-1 : Int32))] []))
  refine own_back ?_ (fun t k => XS.aload X112.here hx rfl (hb hby d1_108) rfl rfl k)
  show own_Go p e below PO (T112.setTop (mkF m 110 #[.val (.ref aT), .val (.ref aA), .val (.ref aB), .val (.ref aR), .val .null, .val (.int (1 : Int32)), .val (.int (-1 : Int32))] [.null]))
  refine own_back ?_ (fun t k => XS.ifnullYes X112.here hx rfl (pc0 := 110) (pc' := 134) rfl (hb hby d1_110) rfl (by decide) (by decide) k)
  show own_Go p e below PO (T112.setTop (mkF m 134 #[.val (.ref aT), .val (.ref aA), .val (.ref aB), .val (.ref aR), .val .null, .val (.int (1 : Int32)), .val (.int (-1 : Int32))] []))
  refine own_back ?_ (fun t k => XS.aloadN X112.here hx rfl (hb hby d1_134) rfl rfl k)
  show own_Go p e below PO (T112.setTop (mkF m 135 #[.val (.ref aT), .val (.ref aA), .val (.ref aB), .val (.ref aR), .val .null, .val (.int (1 : Int32)), .val (.int (-1 : Int32))] [(.ref aT)]))
  refine own_back ?_ (fun t k => XS.aload X112.here hx rfl (hb hby d1_135) rfl rfl k)
  show own_Go p e below PO (T112.setTop (mkF m 137 #[.val (.ref aT), .val (.ref aA), .val (.ref aB), .val (.ref aR), .val .null, .val (.int (1 : Int32)), .val (.int (-1 : Int32))] [.null, (.ref aT)]))
  refine own_back ?_ (fun t k => XS.ifnonnullNo X112.here hx rfl (hb hby d1_137) rfl k)
  show own_Go p e below PO (T112.setTop (mkF m 140 #[.val (.ref aT), .val (.ref aA), .val (.ref aB), .val (.ref aR), .val .null, .val (.int (1 : Int32)), .val (.int (-1 : Int32))] [(.ref aT)]))
  refine own_back ?_ (fun t k => XS.aconstNull X112.here hx rfl (hb hby d1_140) k)
  show own_Go p e below PO (T112.setTop (mkF m 141 #[.val (.ref aT), .val (.ref aA), .val (.ref aB), .val (.ref aR), .val .null, .val (.int (1 : Int32)), .val (.int (-1 : Int32))] [.null, (.ref aT)]))
  refine own_back ?_ (fun t k => XS.goto X112.here hx rfl (pc0 := 141) (pc' := 153) rfl (hb hby d1_141) (by decide) (by decide) k)
  show own_Go p e below PO (T112.setTop (mkF m 153 #[.val (.ref aT), .val (.ref aA), .val (.ref aB), .val (.ref aR), .val .null, .val (.int (1 : Int32)), .val (.int (-1 : Int32))] [.null, (.ref aT)]))
  obtain ⟨T126, h126, X126, e126, W126, st126⟩ := putF X112 hx hZ hown (host := "") (Or.inl (hw _ (List.mem_of_getElem? (i := 49) rfl))) Via.refl e112 f112_119 f112_115 (Or.inr ⟨(hw _ (List.mem_of_getElem? (i := 50) rfl)), rfl, hnm⟩) (hw _ (List.mem_of_getElem? (i := 3) rfl)) (ty := (.array .double)) (by decide) rfl rfl (g := (mkF m 153 #[.val (.ref aT), .val (.ref aA), .val (.ref aB), .val (.ref aR), .val .null, .val (.int (1 : Int32)), .val (.int (-1 : Int32))] [.null, (.ref aT)])) rfl rfl (hb hby d1_153)
  have Fw126 := f112_119.same W126
  have f126_127 := f112_113.wr W126
  have f126_128 := f112_114.other W126 (Ne.symm ne_aT_b3)
  have f126_129 := f112_115.wr W126
  have f126_130 := f112_116.other W126 (Or.inr (slot_ne (Or.inr (hw _ (List.mem_of_getElem? (i := 21) rfl))) (Or.inr (hw _ (List.mem_of_getElem? (i := 50) rfl))) (by decide) (t := (.array .int)) (t' := (.array .double)) (by decide) (by decide)))
  have f126_131 := f112_117.other W126 (Or.inr (slot_ne (Or.inr (hw _ (List.mem_of_getElem? (i := 23) rfl))) (Or.inr (hw _ (List.mem_of_getElem? (i := 50) rfl))) (by decide) (t := (.array .int)) (t' := (.array .double)) (by decide) (by decide)))
  have f126_132 := f112_118.other W126 (Or.inr (slot_ne (Or.inr (hw _ (List.mem_of_getElem? (i := 25) rfl))) (Or.inr (hw _ (List.mem_of_getElem? (i := 50) rfl))) (by decide) (t := (.array .int)) (t' := (.array .double)) (by decide) (by decide)))
  have f126_133 := Fw112.other W126 (Or.inr (slot_ne (Or.inr (hw _ (List.mem_of_getElem? (i := 48) rfl))) (Or.inr (hw _ (List.mem_of_getElem? (i := 50) rfl))) (by decide) (t := (.array .double)) (t' := (.array .double)) (by decide) (by decide)))
  have f126_134 := f112_120.wr W126
  have f126_135 := f112_121.other W126 (Ne.symm ne_aT_b13)
  have f126_136 := f112_122.wr W126
  have f126_137 := f112_123.other W126 (Ne.symm ne_aT_b33)
  have f126_138 := f112_124.wr W126
  have f126_139 := f112_125.other W126 (Ne.symm ne_aT_aN99)
  have K126 : Keep h0 h126 [aT] := (K112).wr W126 (Or.inl (by simp))
  have N126 := Fr.snoc X126 N112 gn_aT
  have Zh126 : n0 ≤ h126.size := Nat.le_trans Z0 K126.1
  have hk126 := Nat.le_trans hk112 (Keep.of_wr W126).1
  refine own_back ?_ st126
  show own_Go p e below PO (T126.setTop (mkF m 156 #[.val (.ref aT), .val (.ref aA), .val (.ref aB), .val (.ref aR), .val .null, .val (.int (1 : Int32)), .val (.int (-1 : Int32))] []))
  refine own_retVW X126 hx Bd.returns (hb hby d1_156) e126 (Bd.notSynchronized) ?_ (by decide) (by decide) (s := s) (vm0 := T86.vm) hS86 hk126
  exact ⟨rfl, N126, K126, b3, sz_b3, f126_130, f126_128⟩
theorem ef_rmH_2 (m : MethodId) (x0 : Addr) (x1 : Int32) : entryFrame m #[(.ref x0), (.int x1)] 6 = mkF m 0 #[.val (.ref x0), .val (.int x1), .unset, .unset, .unset, .unset] [] := by first | (simp [entryFrame, mkF, argsToLocals, Value.category]; done) | rfl
def Q_rmH_2 (xA xB pQ : Int32) (h0 : Heap) (n0 : Nat) (v : Option Value) (h : Heap) (L : List Loc) : Prop := v = some (.int (own_h2 xA xB pQ)) ∧ Fr n0 L ∧ h = h0
set_option maxRecDepth 65536 in
set_option maxHeartbeats 40000000 in
theorem rmH_2 (l : Launch) (Z : State) (a0 : Array Value) (hw : ∀ d ∈ tables_1, d.before a0 Z = true) (ws : List Jvm.Cond) (aT : Addr) (pQ : Int32) (aA : Addr) (kA : ClassId) (xA xB : Int32) (h0 : Heap) (n0 : Nat) (Z0 : n0 ≤ h0.size) (F_S : Fld Z h0 aT "com/example/nearbound/nearbound/dcop/Constraint" "scope" "[I" (.ref aA)) (V_A : Arv Z h0 aA kA .int (2 : Int32) [(.int xA), (.int xB)] (.int (0 : Int32))) :
    MetFree l (⟨"com/example/nearbound/nearbound/dcop/Constraint", "holds", "(I)Z"⟩ : MethodName) (head1 (Jvm.Cond.code (⟨"com/example/nearbound/nearbound/dcop/Constraint", "holds", "(I)Z"⟩ : MethodName) prog_2_method_8_code 6 (some .boolean) :: ws) ({ frames := 0, cells := 0, slots := 0, locals := 0 } : Room)) (fun a U => a = #[(.ref aT), (.int pQ)] ∧ Z.Warmed39 U.vm ∧ U.heap = h0) (fun _ _ _ _ _ => True) (fun _ U o U' => ∃ v L, o = .returned v ∧ Q_rmH_2 xA xB pQ h0 n0 v U'.heap L ∧ FrameEnd U o U' L ({ frames := 0, cells := 0, slots := 0, locals := 0 } : Room).cells ({ frames := 0, cells := 0, slots := 0, locals := 0 } : Room).slots) := by
  refine MetFree.of_bodySF (plainFor_of_name pn_0) hisR ?_
  intro p e s m args below meth c s₁ Bd hml0 hP hK
  obtain ⟨rfl, hZ, hh⟩ := hP
  have hx := Bd.exec
  have hby := Bd.bytes
  have hml : c.maxLocals = 6 := hml0
  have hown : s.vm.findClass "com/example/nearbound/nearbound/dcop/Constraint" = some m.cls := findClass_of_methodNamed Bd.named
  have hnm := (name_of_methodNamed Bd.named Bd.method).1
  have X0 : Stand p l e ({ frames := 0, cells := 0, slots := 0, locals := 0 } : Room) s m #[(.ref aT), (.int pQ)] below meth c s₁ [] 0 0 := Stand.of_body Bd
  have e0 : s₁.heap = h0 := by rw [← hh, Bd.state]; rfl
  have N0 := Fr.nil n0
  let PO : Outcome → State → Prop := own_PO s (Q_rmH_2 xA xB pQ h0 n0) 0 0
  show own_Go p e below PO (s₁.setTop (entryFrame m #[(.ref aT), (.int pQ)] 6))
  rw [ef_rmH_2]
  show own_Go p e below PO (s₁.setTop (mkF m 0 #[.val (.ref aT), .val (.int pQ), .unset, .unset, .unset, .unset] []))
  refine own_back ?_ (fun t k => XS.aloadN X0.here hx rfl (hb hby d5_0) rfl rfl k)
  show own_Go p e below PO (s₁.setTop (mkF m 1 #[.val (.ref aT), .val (.int pQ), .unset, .unset, .unset, .unset] [(.ref aT)]))
  obtain ⟨T1, X1, e1, st1⟩ := getF X0 hx hZ hown (host := "") (Or.inl (hw _ (List.mem_of_getElem? (i := 20) rfl))) Via.refl e0 F_S (g := (mkF m 1 #[.val (.ref aT), .val (.int pQ), .unset, .unset, .unset, .unset] [(.ref aT)])) rfl rfl (hb hby d5_1)
  refine own_back ?_ st1
  show own_Go p e below PO (T1.setTop (mkF m 4 #[.val (.ref aT), .val (.int pQ), .unset, .unset, .unset, .unset] [(.ref aA)]))
  refine own_back ?_ (fun t k => XS.astoreN X1.here hx rfl (hb hby d5_4) rfl rfl (l' := #[.val (.ref aT), .val (.int pQ), .val (.ref aA), .unset, .unset, .unset]) rfl k)
  show own_Go p e below PO (T1.setTop (mkF m 5 #[.val (.ref aT), .val (.int pQ), .val (.ref aA), .unset, .unset, .unset] []))
  refine own_back ?_ (fun t k => XS.aloadN X1.here hx rfl (hb hby d5_5) rfl rfl k)
  show own_Go p e below PO (T1.setTop (mkF m 6 #[.val (.ref aT), .val (.int pQ), .val (.ref aA), .unset, .unset, .unset] [(.ref aA)]))
  refine own_back ?_ (own_len X1 hx hZ e1 V_A (g := (mkF m 6 #[.val (.ref aT), .val (.int pQ), .val (.ref aA), .unset, .unset, .unset] [(.ref aA)])) rfl rfl (hb hby d5_6))
  show own_Go p e below PO (T1.setTop (mkF m 7 #[.val (.ref aT), .val (.int pQ), .val (.ref aA), .unset, .unset, .unset] [(.int (2 : Int32))]))
  refine own_back ?_ (fun t k => XS.istoreN X1.here hx rfl (hb hby d5_7) rfl (l' := #[.val (.ref aT), .val (.int pQ), .val (.ref aA), .val (.int (2 : Int32)), .unset, .unset]) rfl k)
  show own_Go p e below PO (T1.setTop (mkF m 8 #[.val (.ref aT), .val (.int pQ), .val (.ref aA), .val (.int (2 : Int32)), .unset, .unset] []))
  refine own_back ?_ (fun t k => XS.iconst X1.here hx rfl (hb hby d5_8) k)
  show own_Go p e below PO (T1.setTop (mkF m 9 #[.val (.ref aT), .val (.int pQ), .val (.ref aA), .val (.int (2 : Int32)), .unset, .unset] [(.int (0 : Int32))]))
  refine own_back ?_ (fun t k => XS.istore X1.here hx rfl (hb hby d5_9) rfl (l' := #[.val (.ref aT), .val (.int pQ), .val (.ref aA), .val (.int (2 : Int32)), .val (.int (0 : Int32)), .unset]) rfl k)
  show own_Go p e below PO (T1.setTop (mkF m 11 #[.val (.ref aT), .val (.int pQ), .val (.ref aA), .val (.int (2 : Int32)), .val (.int (0 : Int32)), .unset] []))
  refine own_back ?_ (fun t k => XS.iload X1.here hx rfl (hb hby d5_11) rfl k)
  show own_Go p e below PO (T1.setTop (mkF m 13 #[.val (.ref aT), .val (.int pQ), .val (.ref aA), .val (.int (2 : Int32)), .val (.int (0 : Int32)), .unset] [(.int (0 : Int32))]))
  refine own_back ?_ (fun t k => XS.iloadN X1.here hx rfl (hb hby d5_13) rfl k)
  show own_Go p e below PO (T1.setTop (mkF m 14 #[.val (.ref aT), .val (.int pQ), .val (.ref aA), .val (.int (2 : Int32)), .val (.int (0 : Int32)), .unset] [(.int (2 : Int32)), (.int (0 : Int32))]))
  have hd14_2 : (0 : Int32) < (2 : Int32) := (by decide)
  refine own_back ?_ (fun t k => XS.icmpNo X1.here hx rfl (hb hby d5_14) rfl (tlt hd14_2).2.1 k)
  show own_Go p e below PO (T1.setTop (mkF m 17 #[.val (.ref aT), .val (.int pQ), .val (.ref aA), .val (.int (2 : Int32)), .val (.int (0 : Int32)), .unset] []))
  refine own_back ?_ (fun t k => XS.aloadN X1.here hx rfl (hb hby d5_17) rfl rfl k)
  show own_Go p e below PO (T1.setTop (mkF m 18 #[.val (.ref aT), .val (.int pQ), .val (.ref aA), .val (.int (2 : Int32)), .val (.int (0 : Int32)), .unset] [(.ref aA)]))
  refine own_back ?_ (fun t k => XS.iload X1.here hx rfl (hb hby d5_18) rfl k)
  show own_Go p e below PO (T1.setTop (mkF m 20 #[.val (.ref aT), .val (.int pQ), .val (.ref aA), .val (.int (2 : Int32)), .val (.int (0 : Int32)), .unset] [(.int (0 : Int32)), (.ref aA)]))
  refine own_back ?_ (own_ldI X1 hx hZ e1 V_A (j := (0 : Int32)) (v := (.int xA)) ⟨by decide, by decide⟩ rfl (g := (mkF m 20 #[.val (.ref aT), .val (.int pQ), .val (.ref aA), .val (.int (2 : Int32)), .val (.int (0 : Int32)), .unset] [(.int (0 : Int32)), (.ref aA)])) rfl rfl (hb hby d5_20))
  show own_Go p e below PO (T1.setTop (mkF m 21 #[.val (.ref aT), .val (.int pQ), .val (.ref aA), .val (.int (2 : Int32)), .val (.int (0 : Int32)), .unset] [(.int xA)]))
  refine own_back ?_ (fun t k => XS.istore X1.here hx rfl (hb hby d5_21) rfl (l' := #[.val (.ref aT), .val (.int pQ), .val (.ref aA), .val (.int (2 : Int32)), .val (.int (0 : Int32)), .val (.int xA)]) rfl k)
  show own_Go p e below PO (T1.setTop (mkF m 23 #[.val (.ref aT), .val (.int pQ), .val (.ref aA), .val (.int (2 : Int32)), .val (.int (0 : Int32)), .val (.int xA)] []))
  refine own_back ?_ (fun t k => XS.iload X1.here hx rfl (hb hby d5_23) rfl k)
  show own_Go p e below PO (T1.setTop (mkF m 25 #[.val (.ref aT), .val (.int pQ), .val (.ref aA), .val (.int (2 : Int32)), .val (.int (0 : Int32)), .val (.int xA)] [(.int xA)]))
  refine own_back ?_ (fun t k => XS.iloadN X1.here hx rfl (hb hby d5_25) rfl k)
  show own_Go p e below PO (T1.setTop (mkF m 26 #[.val (.ref aT), .val (.int pQ), .val (.ref aA), .val (.int (2 : Int32)), .val (.int (0 : Int32)), .val (.int xA)] [(.int pQ), (.int xA)]))
  by_cases hc26_3 : xA = pQ
  case pos =>
    refine own_back ?_ (fun t k => XS.icmpNo X1.here hx rfl (hb hby d5_26) rfl (teq hc26_3).2 k)
    show own_Go p e below PO (T1.setTop (mkF m 29 #[.val (.ref aT), .val (.int pQ), .val (.ref aA), .val (.int (2 : Int32)), .val (.int (0 : Int32)), .val (.int xA)] []))
    refine own_back ?_ (fun t k => XS.iconst X1.here hx rfl (hb hby d5_29) k)
    show own_Go p e below PO (T1.setTop (mkF m 30 #[.val (.ref aT), .val (.int pQ), .val (.ref aA), .val (.int (2 : Int32)), .val (.int (0 : Int32)), .val (.int xA)] [(.int (1 : Int32))]))
    refine own_retN X1 hx (t := .boolean) (rest := []) Bd.returns (by decide) (by simp) (hb hby d5_30) e1 (Bd.notSynchronized) ?_ (by decide) (by decide)
    exact ⟨by simp [own_h1, own_h2, own_h3, hd14_2, hc26_3], N0, rfl⟩
  refine own_back ?_ (fun t k => XS.icmpYes X1.here hx rfl (pc0 := 26) (pc' := 31) rfl (hb hby d5_26) rfl (feq hc26_3).2 (by decide) (by decide) k)
  show own_Go p e below PO (T1.setTop (mkF m 31 #[.val (.ref aT), .val (.int pQ), .val (.ref aA), .val (.int (2 : Int32)), .val (.int (0 : Int32)), .val (.int xA)] []))
  refine own_back ?_ (fun t k => XS.iinc X1.here hx rfl (hb hby d5_31) rfl (l' := #[.val (.ref aT), .val (.int pQ), .val (.ref aA), .val (.int (2 : Int32)), .val (.int (1 : Int32)), .val (.int xA)]) rfl k)
  show own_Go p e below PO (T1.setTop (mkF m 34 #[.val (.ref aT), .val (.int pQ), .val (.ref aA), .val (.int (2 : Int32)), .val (.int (1 : Int32)), .val (.int xA)] []))
  refine own_back ?_ (fun t k => XS.goto X1.here hx rfl (pc0 := 34) (pc' := 11) rfl (hb hby d5_34) (by decide) (by decide) k)
  show own_Go p e below PO (T1.setTop (mkF m 11 #[.val (.ref aT), .val (.int pQ), .val (.ref aA), .val (.int (2 : Int32)), .val (.int (1 : Int32)), .val (.int xA)] []))
  refine own_back ?_ (fun t k => XS.iload X1.here hx rfl (hb hby d5_11) rfl k)
  show own_Go p e below PO (T1.setTop (mkF m 13 #[.val (.ref aT), .val (.int pQ), .val (.ref aA), .val (.int (2 : Int32)), .val (.int (1 : Int32)), .val (.int xA)] [(.int (1 : Int32))]))
  refine own_back ?_ (fun t k => XS.iloadN X1.here hx rfl (hb hby d5_13) rfl k)
  show own_Go p e below PO (T1.setTop (mkF m 14 #[.val (.ref aT), .val (.int pQ), .val (.ref aA), .val (.int (2 : Int32)), .val (.int (1 : Int32)), .val (.int xA)] [(.int (2 : Int32)), (.int (1 : Int32))]))
  have hd14_4 : (1 : Int32) < (2 : Int32) := (by decide)
  refine own_back ?_ (fun t k => XS.icmpNo X1.here hx rfl (hb hby d5_14) rfl (tlt hd14_4).2.1 k)
  show own_Go p e below PO (T1.setTop (mkF m 17 #[.val (.ref aT), .val (.int pQ), .val (.ref aA), .val (.int (2 : Int32)), .val (.int (1 : Int32)), .val (.int xA)] []))
  refine own_back ?_ (fun t k => XS.aloadN X1.here hx rfl (hb hby d5_17) rfl rfl k)
  show own_Go p e below PO (T1.setTop (mkF m 18 #[.val (.ref aT), .val (.int pQ), .val (.ref aA), .val (.int (2 : Int32)), .val (.int (1 : Int32)), .val (.int xA)] [(.ref aA)]))
  refine own_back ?_ (fun t k => XS.iload X1.here hx rfl (hb hby d5_18) rfl k)
  show own_Go p e below PO (T1.setTop (mkF m 20 #[.val (.ref aT), .val (.int pQ), .val (.ref aA), .val (.int (2 : Int32)), .val (.int (1 : Int32)), .val (.int xA)] [(.int (1 : Int32)), (.ref aA)]))
  refine own_back ?_ (own_ldI X1 hx hZ e1 V_A (j := (1 : Int32)) (v := (.int xB)) ⟨by decide, by decide⟩ rfl (g := (mkF m 20 #[.val (.ref aT), .val (.int pQ), .val (.ref aA), .val (.int (2 : Int32)), .val (.int (1 : Int32)), .val (.int xA)] [(.int (1 : Int32)), (.ref aA)])) rfl rfl (hb hby d5_20))
  show own_Go p e below PO (T1.setTop (mkF m 21 #[.val (.ref aT), .val (.int pQ), .val (.ref aA), .val (.int (2 : Int32)), .val (.int (1 : Int32)), .val (.int xA)] [(.int xB)]))
  refine own_back ?_ (fun t k => XS.istore X1.here hx rfl (hb hby d5_21) rfl (l' := #[.val (.ref aT), .val (.int pQ), .val (.ref aA), .val (.int (2 : Int32)), .val (.int (1 : Int32)), .val (.int xB)]) rfl k)
  show own_Go p e below PO (T1.setTop (mkF m 23 #[.val (.ref aT), .val (.int pQ), .val (.ref aA), .val (.int (2 : Int32)), .val (.int (1 : Int32)), .val (.int xB)] []))
  refine own_back ?_ (fun t k => XS.iload X1.here hx rfl (hb hby d5_23) rfl k)
  show own_Go p e below PO (T1.setTop (mkF m 25 #[.val (.ref aT), .val (.int pQ), .val (.ref aA), .val (.int (2 : Int32)), .val (.int (1 : Int32)), .val (.int xB)] [(.int xB)]))
  refine own_back ?_ (fun t k => XS.iloadN X1.here hx rfl (hb hby d5_25) rfl k)
  show own_Go p e below PO (T1.setTop (mkF m 26 #[.val (.ref aT), .val (.int pQ), .val (.ref aA), .val (.int (2 : Int32)), .val (.int (1 : Int32)), .val (.int xB)] [(.int pQ), (.int xB)]))
  by_cases hc26_5 : xB = pQ
  case pos =>
    refine own_back ?_ (fun t k => XS.icmpNo X1.here hx rfl (hb hby d5_26) rfl (teq hc26_5).2 k)
    show own_Go p e below PO (T1.setTop (mkF m 29 #[.val (.ref aT), .val (.int pQ), .val (.ref aA), .val (.int (2 : Int32)), .val (.int (1 : Int32)), .val (.int xB)] []))
    refine own_back ?_ (fun t k => XS.iconst X1.here hx rfl (hb hby d5_29) k)
    show own_Go p e below PO (T1.setTop (mkF m 30 #[.val (.ref aT), .val (.int pQ), .val (.ref aA), .val (.int (2 : Int32)), .val (.int (1 : Int32)), .val (.int xB)] [(.int (1 : Int32))]))
    refine own_retN X1 hx (t := .boolean) (rest := []) Bd.returns (by decide) (by simp) (hb hby d5_30) e1 (Bd.notSynchronized) ?_ (by decide) (by decide)
    exact ⟨by simp [own_h1, own_h2, own_h3, hd14_2, hc26_3, hd14_4, hc26_5], N0, rfl⟩
  refine own_back ?_ (fun t k => XS.icmpYes X1.here hx rfl (pc0 := 26) (pc' := 31) rfl (hb hby d5_26) rfl (feq hc26_5).2 (by decide) (by decide) k)
  show own_Go p e below PO (T1.setTop (mkF m 31 #[.val (.ref aT), .val (.int pQ), .val (.ref aA), .val (.int (2 : Int32)), .val (.int (1 : Int32)), .val (.int xB)] []))
  refine own_back ?_ (fun t k => XS.iinc X1.here hx rfl (hb hby d5_31) rfl (l' := #[.val (.ref aT), .val (.int pQ), .val (.ref aA), .val (.int (2 : Int32)), .val (.int (2 : Int32)), .val (.int xB)]) rfl k)
  show own_Go p e below PO (T1.setTop (mkF m 34 #[.val (.ref aT), .val (.int pQ), .val (.ref aA), .val (.int (2 : Int32)), .val (.int (2 : Int32)), .val (.int xB)] []))
  refine own_back ?_ (fun t k => XS.goto X1.here hx rfl (pc0 := 34) (pc' := 11) rfl (hb hby d5_34) (by decide) (by decide) k)
  show own_Go p e below PO (T1.setTop (mkF m 11 #[.val (.ref aT), .val (.int pQ), .val (.ref aA), .val (.int (2 : Int32)), .val (.int (2 : Int32)), .val (.int xB)] []))
  refine own_back ?_ (fun t k => XS.iload X1.here hx rfl (hb hby d5_11) rfl k)
  show own_Go p e below PO (T1.setTop (mkF m 13 #[.val (.ref aT), .val (.int pQ), .val (.ref aA), .val (.int (2 : Int32)), .val (.int (2 : Int32)), .val (.int xB)] [(.int (2 : Int32))]))
  refine own_back ?_ (fun t k => XS.iloadN X1.here hx rfl (hb hby d5_13) rfl k)
  show own_Go p e below PO (T1.setTop (mkF m 14 #[.val (.ref aT), .val (.int pQ), .val (.ref aA), .val (.int (2 : Int32)), .val (.int (2 : Int32)), .val (.int xB)] [(.int (2 : Int32)), (.int (2 : Int32))]))
  refine own_back ?_ (fun t k => XS.icmpYes X1.here hx rfl (pc0 := 14) (pc' := 37) rfl (hb hby d5_14) rfl (flt Int32.lt_irrefl).2.1 (by decide) (by decide) k)
  show own_Go p e below PO (T1.setTop (mkF m 37 #[.val (.ref aT), .val (.int pQ), .val (.ref aA), .val (.int (2 : Int32)), .val (.int (2 : Int32)), .val (.int xB)] []))
  refine own_back ?_ (fun t k => XS.iconst X1.here hx rfl (hb hby d5_37) k)
  show own_Go p e below PO (T1.setTop (mkF m 38 #[.val (.ref aT), .val (.int pQ), .val (.ref aA), .val (.int (2 : Int32)), .val (.int (2 : Int32)), .val (.int xB)] [(.int (0 : Int32))]))
  refine own_retN X1 hx (t := .boolean) (rest := []) Bd.returns (by decide) (by simp) (hb hby d5_38) e1 (Bd.notSynchronized) ?_ (by decide) (by decide)
  exact ⟨by simp [own_h1, own_h2, own_h3, hd14_2, hc26_3, hd14_4, hc26_5], N0, rfl⟩
theorem ef_rmI_3 (m : MethodId) (x0 : Addr) (x1 : Addr) (x2 : Addr) (x3 : Addr) : entryFrame m #[(.ref x0), (.ref x1), (.ref x2), (.ref x3), .null] 7 = mkF m 0 #[.val (.ref x0), .val (.ref x1), .val (.ref x2), .val (.ref x3), .val .null, .unset, .unset] [] := by first | (simp [entryFrame, mkF, argsToLocals, Value.category]; done) | rfl
def Q_rmI_3 (Z : State) (aT : Addr) (kA : ClassId) (xA xB xC : Int32) (h0 : Heap) (n0 : Nat) (v : Option Value) (h : Heap) (L : List Loc) : Prop := v = none ∧ Fr n0 L ∧ Keep h0 h [aT] ∧ ∃ aN : Addr, h0.size ≤ aN ∧ Fld Z h aT "com/example/nearbound/nearbound/dcop/Constraint" "scope" "[I" (.ref aN) ∧ Arv Z h aN kA .int (3 : Int32) [(.int xA), (.int xB), (.int xC)] (.int (0 : Int32))
set_option maxRecDepth 65536 in
set_option maxHeartbeats 40000000 in
theorem rmI_3 (l : Launch) (Z : State) (a0 : Array Value) (hw : ∀ d ∈ tables_1, d.before a0 Z = true) (ws : List Jvm.Cond) (aT : Addr) (aA : Addr) (aB : Addr) (aR : Addr) (kA kB kR : ClassId) (xA xB xC : Int32) (u0 : UInt64) (h0 : Heap) (n0 : Nat) (Z0 : n0 ≤ h0.size) (E_T : Exa Z h0 aT "com/example/nearbound/nearbound/dcop/Constraint") (F_scope : Fld Z h0 aT "com/example/nearbound/nearbound/dcop/Constraint" "scope" "[I" .null) (F_sizes : Fld Z h0 aT "com/example/nearbound/nearbound/dcop/Constraint" "sizes" "[I" .null) (F_strides : Fld Z h0 aT "com/example/nearbound/nearbound/dcop/Constraint" "strides" "[I" .null) (F_rewards : Fld Z h0 aT "com/example/nearbound/nearbound/dcop/Constraint" "rewards" "[D" .null) (F_costs : Fld Z h0 aT "com/example/nearbound/nearbound/dcop/Constraint" "costs" "[D" .null) (E_A : Exa Z h0 aA "[I") (V_A : Arv Z h0 aA kA .int (3 : Int32) [(.int xA), (.int xB), (.int xC)] (.int (0 : Int32))) (E_B : Exa Z h0 aB "[I") (V_B : Arv Z h0 aB kB .int (3 : Int32) [(.int (1 : Int32)), (.int (1 : Int32)), (.int (1 : Int32))] (.int (0 : Int32))) (E_R : Exa Z h0 aR "[D") (V_R : Arv Z h0 aR kR .double (1 : Int32) [(.double u0)] (.double (0 : UInt64))) (nA : aA ≠ aT) (nB : aB ≠ aT) (nR : aR ≠ aT) (gn_aT : n0 ≤ aT) :
    MetFree l (⟨"com/example/nearbound/nearbound/dcop/Constraint", "<init>", "([I[I[D[D)V"⟩ : MethodName) (head1 (Jvm.Cond.code (⟨"com/example/nearbound/nearbound/dcop/Constraint", "<init>", "([I[I[D[D)V"⟩ : MethodName) prog_2_method_1_code 7 none :: ws) ({ frames := 2, cells := 6, slots := 42, locals := 29 } : Room)) (fun a U => a = #[(.ref aT), (.ref aA), (.ref aB), (.ref aR), .null] ∧ Z.Warmed39 U.vm ∧ U.heap = h0) (fun _ _ _ _ _ => True) (fun _ U o U' => ∃ v L, o = .returned v ∧ Q_rmI_3 Z aT kA xA xB xC h0 n0 v U'.heap L ∧ ReturnedEndW U o U' L ({ frames := 2, cells := 6, slots := 42, locals := 29 } : Room).cells ({ frames := 2, cells := 6, slots := 42, locals := 29 } : Room).slots) := by
  refine MetFree.of_bodySF (plainFor_of_name pn_0) hisR ?_
  intro p e s m args below meth c s₁ Bd hml0 hP hK
  obtain ⟨rfl, hZ, hh⟩ := hP
  have hx := Bd.exec
  have hby := Bd.bytes
  have hml : c.maxLocals = 7 := hml0
  have hown : s.vm.findClass "com/example/nearbound/nearbound/dcop/Constraint" = some m.cls := findClass_of_methodNamed Bd.named
  have hnm := (name_of_methodNamed Bd.named Bd.method).1
  have X0 : Stand p l e ({ frames := 2, cells := 6, slots := 42, locals := 29 } : Room) s m #[(.ref aT), (.ref aA), (.ref aB), (.ref aR), .null] below meth c s₁ [] 0 0 := Stand.of_body Bd
  have e0 : s₁.heap = h0 := by rw [← hh, Bd.state]; rfl
  have N0 := Fr.nil n0
  have hS0 : s.Since s.vm 0 := (State.WarmedH.refl s).since 0
  let PO : Outcome → State → Prop := own_POW s (Q_rmI_3 Z aT kA xA xB xC h0 n0) 6 42
  show own_Go p e below PO (s₁.setTop (entryFrame m #[(.ref aT), (.ref aA), (.ref aB), (.ref aR), .null] 7))
  rw [ef_rmI_3]
  show own_Go p e below PO (s₁.setTop (mkF m 0 #[.val (.ref aT), .val (.ref aA), .val (.ref aB), .val (.ref aR), .val .null, .unset, .unset] []))
  refine own_back ?_ (fun t k => XS.aloadN X0.here hx rfl (hb hby d1_0) rfl rfl k)
  show own_Go p e below PO (s₁.setTop (mkF m 1 #[.val (.ref aT), .val (.ref aA), .val (.ref aB), .val (.ref aR), .val .null, .unset, .unset] [(.ref aT)]))
  obtain ⟨T1, X1, e1, st1⟩ := initO X0 hx hZ hown (hw _ (List.mem_of_getElem? (i := 8) rfl)) (hw _ (List.mem_of_getElem? (i := 9) rfl)) (hw _ (List.mem_of_getElem? (i := 10) rfl)) e0 (g := (mkF m 1 #[.val (.ref aT), .val (.ref aA), .val (.ref aB), .val (.ref aR), .val .null, .unset, .unset] [(.ref aT)])) rfl (by rw [hml]; rfl) rfl (hb hby d1_1) (by decide) (W := 0) (by show 2 * 0 + _ ≤ _; exact Nat.le_of_eq rfl) (by decide)
  refine own_back ?_ st1
  show own_Go p e below PO (T1.setTop (mkF m 4 #[.val (.ref aT), .val (.ref aA), .val (.ref aB), .val (.ref aR), .val .null, .unset, .unset] []))
  refine own_back ?_ (fun t k => XS.aloadN X1.here hx rfl (hb hby d1_4) rfl rfl k)
  show own_Go p e below PO (T1.setTop (mkF m 5 #[.val (.ref aT), .val (.ref aA), .val (.ref aB), .val (.ref aR), .val .null, .unset, .unset] [(.ref aA)]))
  refine own_back ?_ (own_len X1 hx hZ e1 V_A (g := (mkF m 5 #[.val (.ref aT), .val (.ref aA), .val (.ref aB), .val (.ref aR), .val .null, .unset, .unset] [(.ref aA)])) rfl rfl (hb hby d1_5))
  show own_Go p e below PO (T1.setTop (mkF m 6 #[.val (.ref aT), .val (.ref aA), .val (.ref aB), .val (.ref aR), .val .null, .unset, .unset] [(.int (3 : Int32))]))
  have hd6_2 : ¬ ((3 : Int32) = (0 : Int32)) := (by decide)
  refine own_back ?_ (fun t k => XS.ifNo X1.here hx rfl (hb hby d1_6) rfl ((if0 _ _).trans (feq hd6_2).1) k)
  show own_Go p e below PO (T1.setTop (mkF m 9 #[.val (.ref aT), .val (.ref aA), .val (.ref aB), .val (.ref aR), .val .null, .unset, .unset] []))
  refine own_back ?_ (fun t k => XS.aloadN X1.here hx rfl (hb hby d1_9) rfl rfl k)
  show own_Go p e below PO (T1.setTop (mkF m 10 #[.val (.ref aT), .val (.ref aA), .val (.ref aB), .val (.ref aR), .val .null, .unset, .unset] [(.ref aA)]))
  refine own_back ?_ (own_len X1 hx hZ e1 V_A (g := (mkF m 10 #[.val (.ref aT), .val (.ref aA), .val (.ref aB), .val (.ref aR), .val .null, .unset, .unset] [(.ref aA)])) rfl rfl (hb hby d1_10))
  show own_Go p e below PO (T1.setTop (mkF m 11 #[.val (.ref aT), .val (.ref aA), .val (.ref aB), .val (.ref aR), .val .null, .unset, .unset] [(.int (3 : Int32))]))
  refine own_back ?_ (fun t k => XS.aloadN X1.here hx rfl (hb hby d1_11) rfl rfl k)
  show own_Go p e below PO (T1.setTop (mkF m 12 #[.val (.ref aT), .val (.ref aA), .val (.ref aB), .val (.ref aR), .val .null, .unset, .unset] [(.ref aB), (.int (3 : Int32))]))
  refine own_back ?_ (own_len X1 hx hZ e1 V_B (g := (mkF m 12 #[.val (.ref aT), .val (.ref aA), .val (.ref aB), .val (.ref aR), .val .null, .unset, .unset] [(.ref aB), (.int (3 : Int32))])) rfl rfl (hb hby d1_12))
  show own_Go p e below PO (T1.setTop (mkF m 13 #[.val (.ref aT), .val (.ref aA), .val (.ref aB), .val (.ref aR), .val .null, .unset, .unset] [(.int (3 : Int32)), (.int (3 : Int32))]))
  refine own_back ?_ (fun t k => XS.icmpYes X1.here hx rfl (pc0 := 13) (pc' := 26) rfl (hb hby d1_13) rfl (teq rfl).1 (by decide) (by decide) k)
  show own_Go p e below PO (T1.setTop (mkF m 26 #[.val (.ref aT), .val (.ref aA), .val (.ref aB), .val (.ref aR), .val .null, .unset, .unset] []))
  refine own_back ?_ (fun t k => XS.aloadN X1.here hx rfl (hb hby d1_26) rfl rfl k)
  show own_Go p e below PO (T1.setTop (mkF m 27 #[.val (.ref aT), .val (.ref aA), .val (.ref aB), .val (.ref aR), .val .null, .unset, .unset] [(.ref aT)]))
  refine own_back ?_ (fun t k => XS.aloadN X1.here hx rfl (hb hby d1_27) rfl rfl k)
  show own_Go p e below PO (T1.setTop (mkF m 28 #[.val (.ref aT), .val (.ref aA), .val (.ref aB), .val (.ref aR), .val .null, .unset, .unset] [(.ref aA), (.ref aT)]))
  obtain ⟨T3, h3, X3, e3, E3, A3, Ex3, st3⟩ := cloneH X1 hx hZ hown (hw _ (List.mem_of_getElem? (i := 11) rfl)) (hw _ (List.mem_of_getElem? (i := 12) rfl)) (hw _ (List.mem_of_getElem? (i := 16) rfl)) (hw _ (List.mem_of_getElem? (i := 14) rfl)) (hw _ (List.mem_of_getElem? (i := 15) rfl)) (hw _ (List.mem_of_getElem? (i := 17) rfl)) e1 (V_A).arh E_A (g := (mkF m 28 #[.val (.ref aT), .val (.ref aA), .val (.ref aB), .val (.ref aR), .val .null, .unset, .unset] [(.ref aA), (.ref aT)])) rfl (by rw [hml]; rfl) rfl (hb hby d1_28) (by decide) (W := 1) (by show 2 * 0 + _ ≤ _; exact Nat.le_of_eq rfl) (by decide) (cap := 3) (by decide) (by decide) (by decide)
  obtain ⟨b3, g3⟩ : ∃ z, z = h0.size := ⟨_, rfl⟩
  rw [← g3] at A3 Ex3 st3
  have ne_aA_b3 : aA ≠ b3 := Nat.ne_of_lt (Nat.lt_of_lt_of_le V_A.lt (Nat.le_of_eq g3.symm))
  have ne_aB_b3 : aB ≠ b3 := Nat.ne_of_lt (Nat.lt_of_lt_of_le V_B.lt (Nat.le_of_eq g3.symm))
  have ne_aR_b3 : aR ≠ b3 := Nat.ne_of_lt (Nat.lt_of_lt_of_le V_R.lt (Nat.le_of_eq g3.symm))
  have ne_aT_b3 : aT ≠ b3 := Nat.ne_of_lt (Nat.lt_of_lt_of_le E_T.lt (Nat.le_of_eq g3.symm))
  have sz_b3 : h0.size ≤ b3 := Nat.le_of_eq g3.symm
  have gn_b3 : n0 ≤ b3 := Nat.le_trans Z0 sz_b3
  have K3 : Keep h0 h3 [] := (Keep.refl h0 []).ext E3
  have Zh3 : n0 ≤ h3.size := Nat.le_trans Z0 K3.1
  have V3 : Arv Z h3 b3 kA .int (3 : Int32) [(.int xA), (.int xB), (.int xC)] (.int (0 : Int32)) := A3
  refine own_back ?_ st3
  show own_Go p e below PO (T3.setTop (mkF m 31 #[.val (.ref aT), .val (.ref aA), .val (.ref aB), .val (.ref aR), .val .null, .unset, .unset] [(.ref b3), (.ref aT)]))
  obtain ⟨T4, X4, e4, st4⟩ := castY X3 hx hZ hown (hw _ (List.mem_of_getElem? (i := 18) rfl)) e3 (Ins.self Ex3) (g := (mkF m 31 #[.val (.ref aT), .val (.ref aA), .val (.ref aB), .val (.ref aR), .val .null, .unset, .unset] [(.ref b3), (.ref aT)])) rfl rfl (hb hby d1_31)
  refine own_back ?_ st4
  show own_Go p e below PO (T4.setTop (mkF m 34 #[.val (.ref aT), .val (.ref aA), .val (.ref aB), .val (.ref aR), .val .null, .unset, .unset] [(.ref b3), (.ref aT)]))
  obtain ⟨T5, h5, X5, e5, W5, st5⟩ := putF X4 hx hZ hown (host := "") (Or.inl (hw _ (List.mem_of_getElem? (i := 20) rfl))) Via.refl e4 (F_scope.keep K3 nin0) (E_T.keep K3) (Or.inr ⟨(hw _ (List.mem_of_getElem? (i := 21) rfl)), rfl, hnm⟩) (hw _ (List.mem_of_getElem? (i := 3) rfl)) (ty := (.array .int)) (by decide) rfl rfl (g := (mkF m 34 #[.val (.ref aT), .val (.ref aA), .val (.ref aB), .val (.ref aR), .val .null, .unset, .unset] [(.ref b3), (.ref aT)])) rfl rfl (hb hby d1_34)
  have Fw5 := (F_scope.keep K3 nin0).same W5
  have f5_6 := Ex3.wr W5
  have f5_7 := V3.other W5 (Ne.symm ne_aT_b3)
  have f5_8 := (E_T.keep K3).wr W5
  have f5_9 := (F_sizes.keep K3 nin0).other W5 (Or.inr (slot_ne (Or.inr (hw _ (List.mem_of_getElem? (i := 23) rfl))) (Or.inr (hw _ (List.mem_of_getElem? (i := 21) rfl))) (by decide) (t := (.array .int)) (t' := (.array .int)) (by decide) (by decide)))
  have f5_10 := (F_strides.keep K3 nin0).other W5 (Or.inr (slot_ne (Or.inr (hw _ (List.mem_of_getElem? (i := 25) rfl))) (Or.inr (hw _ (List.mem_of_getElem? (i := 21) rfl))) (by decide) (t := (.array .int)) (t' := (.array .int)) (by decide) (by decide)))
  have f5_11 := (F_rewards.keep K3 nin0).other W5 (Or.inr (slot_ne (Or.inr (hw _ (List.mem_of_getElem? (i := 48) rfl))) (Or.inr (hw _ (List.mem_of_getElem? (i := 21) rfl))) (by decide) (t := (.array .double)) (t' := (.array .int)) (by decide) (by decide)))
  have f5_12 := (F_costs.keep K3 nin0).other W5 (Or.inr (slot_ne (Or.inr (hw _ (List.mem_of_getElem? (i := 50) rfl))) (Or.inr (hw _ (List.mem_of_getElem? (i := 21) rfl))) (by decide) (t := (.array .double)) (t' := (.array .int)) (by decide) (by decide)))
  have K5w : Keep h0 h3 [aT] := own_keep_more K3 (by simp)
  have K5 : Keep h0 h5 [aT] := (K5w).wr W5 (Or.inl (by simp))
  have N5 := Fr.snoc X5 N0 gn_aT
  have Zh5 : n0 ≤ h5.size := Nat.le_trans Z0 K5.1
  refine own_back ?_ st5
  show own_Go p e below PO (T5.setTop (mkF m 37 #[.val (.ref aT), .val (.ref aA), .val (.ref aB), .val (.ref aR), .val .null, .unset, .unset] []))
  refine own_back ?_ (fun t k => XS.aloadN X5.here hx rfl (hb hby d1_37) rfl rfl k)
  show own_Go p e below PO (T5.setTop (mkF m 38 #[.val (.ref aT), .val (.ref aA), .val (.ref aB), .val (.ref aR), .val .null, .unset, .unset] [(.ref aT)]))
  refine own_back ?_ (fun t k => XS.aloadN X5.here hx rfl (hb hby d1_38) rfl rfl k)
  show own_Go p e below PO (T5.setTop (mkF m 39 #[.val (.ref aT), .val (.ref aA), .val (.ref aB), .val (.ref aR), .val .null, .unset, .unset] [(.ref aB), (.ref aT)]))
  obtain ⟨T13, h13, X13, e13, E13, A13, Ex13, st13⟩ := cloneH X5 hx hZ hown (hw _ (List.mem_of_getElem? (i := 11) rfl)) (hw _ (List.mem_of_getElem? (i := 12) rfl)) (hw _ (List.mem_of_getElem? (i := 16) rfl)) (hw _ (List.mem_of_getElem? (i := 14) rfl)) (hw _ (List.mem_of_getElem? (i := 15) rfl)) (hw _ (List.mem_of_getElem? (i := 17) rfl)) e5 ((V_B.keep K5 (ninS nB nin0))).arh (E_B.keep K5) (g := (mkF m 39 #[.val (.ref aT), .val (.ref aA), .val (.ref aB), .val (.ref aR), .val .null, .unset, .unset] [(.ref aB), (.ref aT)])) rfl (by rw [hml]; rfl) rfl (hb hby d1_39) (by decide) (W := 1) (by show 2 * 0 + _ ≤ _; exact Nat.le_of_eq rfl) (by decide) (cap := 3) (by decide) (by decide) (by decide)
  obtain ⟨b13, g13⟩ : ∃ z, z = h5.size := ⟨_, rfl⟩
  rw [← g13] at A13 Ex13 st13
  have ne_aA_b13 : aA ≠ b13 := Nat.ne_of_lt (Nat.lt_of_lt_of_le (V_A.keep K5 (ninS nA nin0)).lt (Nat.le_of_eq g13.symm))
  have ne_aB_b13 : aB ≠ b13 := Nat.ne_of_lt (Nat.lt_of_lt_of_le (V_B.keep K5 (ninS nB nin0)).lt (Nat.le_of_eq g13.symm))
  have ne_aR_b13 : aR ≠ b13 := Nat.ne_of_lt (Nat.lt_of_lt_of_le (V_R.keep K5 (ninS nR nin0)).lt (Nat.le_of_eq g13.symm))
  have ne_aT_b13 : aT ≠ b13 := Nat.ne_of_lt (Nat.lt_of_lt_of_le f5_8.lt (Nat.le_of_eq g13.symm))
  have ne_b3_b13 : b3 ≠ b13 := Nat.ne_of_lt (Nat.lt_of_lt_of_le f5_6.lt (Nat.le_of_eq g13.symm))
  have sz_b13 : h0.size ≤ b13 := Nat.le_trans K5.1 (Nat.le_of_eq g13.symm)
  have gn_b13 : n0 ≤ b13 := Nat.le_trans Z0 sz_b13
  have f13_14 := f5_6.ext E13
  have f13_15 := f5_7.ext E13
  have f13_16 := f5_8.ext E13
  have f13_17 := Fw5.ext E13
  have f13_18 := f5_9.ext E13
  have f13_19 := f5_10.ext E13
  have f13_20 := f5_11.ext E13
  have f13_21 := f5_12.ext E13
  have K13 : Keep h0 h13 [aT] := (K5).ext E13
  have Zh13 : n0 ≤ h13.size := Nat.le_trans Z0 K13.1
  have V13 : Arv Z h13 b13 kB .int (3 : Int32) [(.int (1 : Int32)), (.int (1 : Int32)), (.int (1 : Int32))] (.int (0 : Int32)) := A13
  refine own_back ?_ st13
  show own_Go p e below PO (T13.setTop (mkF m 42 #[.val (.ref aT), .val (.ref aA), .val (.ref aB), .val (.ref aR), .val .null, .unset, .unset] [(.ref b13), (.ref aT)]))
  obtain ⟨T22, X22, e22, st22⟩ := castY X13 hx hZ hown (hw _ (List.mem_of_getElem? (i := 18) rfl)) e13 (Ins.self Ex13) (g := (mkF m 42 #[.val (.ref aT), .val (.ref aA), .val (.ref aB), .val (.ref aR), .val .null, .unset, .unset] [(.ref b13), (.ref aT)])) rfl rfl (hb hby d1_42)
  refine own_back ?_ st22
  show own_Go p e below PO (T22.setTop (mkF m 45 #[.val (.ref aT), .val (.ref aA), .val (.ref aB), .val (.ref aR), .val .null, .unset, .unset] [(.ref b13), (.ref aT)]))
  obtain ⟨T23, h23, X23, e23, W23, st23⟩ := putF X22 hx hZ hown (host := "") (Or.inl (hw _ (List.mem_of_getElem? (i := 22) rfl))) Via.refl e22 f13_18 f13_16 (Or.inr ⟨(hw _ (List.mem_of_getElem? (i := 23) rfl)), rfl, hnm⟩) (hw _ (List.mem_of_getElem? (i := 3) rfl)) (ty := (.array .int)) (by decide) rfl rfl (g := (mkF m 45 #[.val (.ref aT), .val (.ref aA), .val (.ref aB), .val (.ref aR), .val .null, .unset, .unset] [(.ref b13), (.ref aT)])) rfl rfl (hb hby d1_45)
  have Fw23 := f13_18.same W23
  have f23_24 := f13_14.wr W23
  have f23_25 := f13_15.other W23 (Ne.symm ne_aT_b3)
  have f23_26 := f13_16.wr W23
  have f23_27 := f13_17.other W23 (Or.inr (slot_ne (Or.inr (hw _ (List.mem_of_getElem? (i := 21) rfl))) (Or.inr (hw _ (List.mem_of_getElem? (i := 23) rfl))) (by decide) (t := (.array .int)) (t' := (.array .int)) (by decide) (by decide)))
  have f23_28 := f13_19.other W23 (Or.inr (slot_ne (Or.inr (hw _ (List.mem_of_getElem? (i := 25) rfl))) (Or.inr (hw _ (List.mem_of_getElem? (i := 23) rfl))) (by decide) (t := (.array .int)) (t' := (.array .int)) (by decide) (by decide)))
  have f23_29 := f13_20.other W23 (Or.inr (slot_ne (Or.inr (hw _ (List.mem_of_getElem? (i := 48) rfl))) (Or.inr (hw _ (List.mem_of_getElem? (i := 23) rfl))) (by decide) (t := (.array .double)) (t' := (.array .int)) (by decide) (by decide)))
  have f23_30 := f13_21.other W23 (Or.inr (slot_ne (Or.inr (hw _ (List.mem_of_getElem? (i := 50) rfl))) (Or.inr (hw _ (List.mem_of_getElem? (i := 23) rfl))) (by decide) (t := (.array .double)) (t' := (.array .int)) (by decide) (by decide)))
  have f23_31 := Ex13.wr W23
  have f23_32 := V13.other W23 (Ne.symm ne_aT_b13)
  have K23 : Keep h0 h23 [aT] := (K13).wr W23 (Or.inl (by simp))
  have N23 := Fr.snoc X23 N5 gn_aT
  have Zh23 : n0 ≤ h23.size := Nat.le_trans Z0 K23.1
  refine own_back ?_ st23
  show own_Go p e below PO (T23.setTop (mkF m 48 #[.val (.ref aT), .val (.ref aA), .val (.ref aB), .val (.ref aR), .val .null, .unset, .unset] []))
  refine own_back ?_ (fun t k => XS.aloadN X23.here hx rfl (hb hby d1_48) rfl rfl k)
  show own_Go p e below PO (T23.setTop (mkF m 49 #[.val (.ref aT), .val (.ref aA), .val (.ref aB), .val (.ref aR), .val .null, .unset, .unset] [(.ref aT)]))
  refine own_back ?_ (fun t k => XS.aloadN X23.here hx rfl (hb hby d1_49) rfl rfl k)
  show own_Go p e below PO (T23.setTop (mkF m 50 #[.val (.ref aT), .val (.ref aA), .val (.ref aB), .val (.ref aR), .val .null, .unset, .unset] [(.ref aA), (.ref aT)]))
  refine own_back ?_ (own_len X23 hx hZ e23 (V_A.keep K23 (ninS nA nin0)) (g := (mkF m 50 #[.val (.ref aT), .val (.ref aA), .val (.ref aB), .val (.ref aR), .val .null, .unset, .unset] [(.ref aA), (.ref aT)])) rfl rfl (hb hby d1_50))
  show own_Go p e below PO (T23.setTop (mkF m 51 #[.val (.ref aT), .val (.ref aA), .val (.ref aB), .val (.ref aR), .val .null, .unset, .unset] [(.int (3 : Int32)), (.ref aT)]))
  obtain ⟨T33, h33, k33, X33, e33, E33, A33, Ex33, st33⟩ := newPE X23 hx hZ (hw _ (List.mem_of_getElem? (i := 0) rfl)) e23 (g := (mkF m 51 #[.val (.ref aT), .val (.ref aA), .val (.ref aB), .val (.ref aR), .val .null, .unset, .unset] [(.int (3 : Int32)), (.ref aT)])) rfl (hb hby d1_51) rfl (by decide) (cap := 3) (by decide) (by decide) (by decide) (by decide) (ad := "[I") (by decide)
  obtain ⟨b33, g33⟩ : ∃ z, z = h23.size := ⟨_, rfl⟩
  rw [← g33] at A33 Ex33 st33
  have ne_aA_b33 : aA ≠ b33 := Nat.ne_of_lt (Nat.lt_of_lt_of_le (V_A.keep K23 (ninS nA nin0)).lt (Nat.le_of_eq g33.symm))
  have ne_aB_b33 : aB ≠ b33 := Nat.ne_of_lt (Nat.lt_of_lt_of_le (V_B.keep K23 (ninS nB nin0)).lt (Nat.le_of_eq g33.symm))
  have ne_aR_b33 : aR ≠ b33 := Nat.ne_of_lt (Nat.lt_of_lt_of_le (V_R.keep K23 (ninS nR nin0)).lt (Nat.le_of_eq g33.symm))
  have ne_aT_b33 : aT ≠ b33 := Nat.ne_of_lt (Nat.lt_of_lt_of_le f23_26.lt (Nat.le_of_eq g33.symm))
  have ne_b13_b33 : b13 ≠ b33 := Nat.ne_of_lt (Nat.lt_of_lt_of_le f23_31.lt (Nat.le_of_eq g33.symm))
  have ne_b3_b33 : b3 ≠ b33 := Nat.ne_of_lt (Nat.lt_of_lt_of_le f23_24.lt (Nat.le_of_eq g33.symm))
  have sz_b33 : h0.size ≤ b33 := Nat.le_trans K23.1 (Nat.le_of_eq g33.symm)
  have gn_b33 : n0 ≤ b33 := Nat.le_trans Z0 sz_b33
  have f33_34 := f23_24.ext E33
  have f33_35 := f23_25.ext E33
  have f33_36 := f23_26.ext E33
  have f33_37 := f23_27.ext E33
  have f33_38 := Fw23.ext E33
  have f33_39 := f23_28.ext E33
  have f33_40 := f23_29.ext E33
  have f33_41 := f23_30.ext E33
  have f33_42 := f23_31.ext E33
  have f33_43 := f23_32.ext E33
  have K33 : Keep h0 h33 [aT] := (K23).ext E33
  have Zh33 : n0 ≤ h33.size := Nat.le_trans Z0 K33.1
  have V33 : Arv Z h33 b33 k33 .int (3 : Int32) [(.int (0 : Int32)), (.int (0 : Int32)), (.int (0 : Int32))] (.int (0 : Int32)) := (Arv.new A33 (by decide)).pad (pad_rep [] (.int (0 : Int32)) 3)
  refine own_back ?_ st33
  show own_Go p e below PO (T33.setTop (mkF m 53 #[.val (.ref aT), .val (.ref aA), .val (.ref aB), .val (.ref aR), .val .null, .unset, .unset] [(.ref b33), (.ref aT)]))
  obtain ⟨T44, h44, X44, e44, W44, st44⟩ := putF X33 hx hZ hown (host := "") (Or.inl (hw _ (List.mem_of_getElem? (i := 24) rfl))) Via.refl e33 f33_39 f33_36 (Or.inr ⟨(hw _ (List.mem_of_getElem? (i := 25) rfl)), rfl, hnm⟩) (hw _ (List.mem_of_getElem? (i := 3) rfl)) (ty := (.array .int)) (by decide) rfl rfl (g := (mkF m 53 #[.val (.ref aT), .val (.ref aA), .val (.ref aB), .val (.ref aR), .val .null, .unset, .unset] [(.ref b33), (.ref aT)])) rfl rfl (hb hby d1_53)
  have Fw44 := f33_39.same W44
  have f44_45 := f33_34.wr W44
  have f44_46 := f33_35.other W44 (Ne.symm ne_aT_b3)
  have f44_47 := f33_36.wr W44
  have f44_48 := f33_37.other W44 (Or.inr (slot_ne (Or.inr (hw _ (List.mem_of_getElem? (i := 21) rfl))) (Or.inr (hw _ (List.mem_of_getElem? (i := 25) rfl))) (by decide) (t := (.array .int)) (t' := (.array .int)) (by decide) (by decide)))
  have f44_49 := f33_38.other W44 (Or.inr (slot_ne (Or.inr (hw _ (List.mem_of_getElem? (i := 23) rfl))) (Or.inr (hw _ (List.mem_of_getElem? (i := 25) rfl))) (by decide) (t := (.array .int)) (t' := (.array .int)) (by decide) (by decide)))
  have f44_50 := f33_40.other W44 (Or.inr (slot_ne (Or.inr (hw _ (List.mem_of_getElem? (i := 48) rfl))) (Or.inr (hw _ (List.mem_of_getElem? (i := 25) rfl))) (by decide) (t := (.array .double)) (t' := (.array .int)) (by decide) (by decide)))
  have f44_51 := f33_41.other W44 (Or.inr (slot_ne (Or.inr (hw _ (List.mem_of_getElem? (i := 50) rfl))) (Or.inr (hw _ (List.mem_of_getElem? (i := 25) rfl))) (by decide) (t := (.array .double)) (t' := (.array .int)) (by decide) (by decide)))
  have f44_52 := f33_42.wr W44
  have f44_53 := f33_43.other W44 (Ne.symm ne_aT_b13)
  have f44_54 := Ex33.wr W44
  have f44_55 := V33.other W44 (Ne.symm ne_aT_b33)
  have K44 : Keep h0 h44 [aT] := (K33).wr W44 (Or.inl (by simp))
  have N44 := Fr.snoc X44 N23 gn_aT
  have Zh44 : n0 ≤ h44.size := Nat.le_trans Z0 K44.1
  refine own_back ?_ st44
  show own_Go p e below PO (T44.setTop (mkF m 56 #[.val (.ref aT), .val (.ref aA), .val (.ref aB), .val (.ref aR), .val .null, .unset, .unset] []))
  refine own_back ?_ (fun t k => XS.iconst X44.here hx rfl (hb hby d1_56) k)
  show own_Go p e below PO (T44.setTop (mkF m 57 #[.val (.ref aT), .val (.ref aA), .val (.ref aB), .val (.ref aR), .val .null, .unset, .unset] [(.int (1 : Int32))]))
  refine own_back ?_ (fun t k => XS.istore X44.here hx rfl (hb hby d1_57) rfl (l' := #[.val (.ref aT), .val (.ref aA), .val (.ref aB), .val (.ref aR), .val .null, .val (.int (1 : Int32)), .unset]) rfl k)
  show own_Go p e below PO (T44.setTop (mkF m 59 #[.val (.ref aT), .val (.ref aA), .val (.ref aB), .val (.ref aR), .val .null, .val (.int (1 : Int32)), .unset] []))
  refine own_back ?_ (fun t k => XS.aloadN X44.here hx rfl (hb hby d1_59) rfl rfl k)
  show own_Go p e below PO (T44.setTop (mkF m 60 #[.val (.ref aT), .val (.ref aA), .val (.ref aB), .val (.ref aR), .val .null, .val (.int (1 : Int32)), .unset] [(.ref aA)]))
  refine own_back ?_ (own_len X44 hx hZ e44 (V_A.keep K44 (ninS nA nin0)) (g := (mkF m 60 #[.val (.ref aT), .val (.ref aA), .val (.ref aB), .val (.ref aR), .val .null, .val (.int (1 : Int32)), .unset] [(.ref aA)])) rfl rfl (hb hby d1_60))
  show own_Go p e below PO (T44.setTop (mkF m 61 #[.val (.ref aT), .val (.ref aA), .val (.ref aB), .val (.ref aR), .val .null, .val (.int (1 : Int32)), .unset] [(.int (3 : Int32))]))
  refine own_back ?_ (fun t k => XS.iconst X44.here hx rfl (hb hby d1_61) k)
  show own_Go p e below PO (T44.setTop (mkF m 62 #[.val (.ref aT), .val (.ref aA), .val (.ref aB), .val (.ref aR), .val .null, .val (.int (1 : Int32)), .unset] [(.int (1 : Int32)), (.int (3 : Int32))]))
  refine own_back ?_ (fun t k => XS.isub X44.here hx rfl (hb hby d1_62) rfl k)
  show own_Go p e below PO (T44.setTop (mkF m 63 #[.val (.ref aT), .val (.ref aA), .val (.ref aB), .val (.ref aR), .val .null, .val (.int (1 : Int32)), .unset] [(.int (2 : Int32))]))
  refine own_back ?_ (fun t k => XS.istore X44.here hx rfl (hb hby d1_63) rfl (l' := #[.val (.ref aT), .val (.ref aA), .val (.ref aB), .val (.ref aR), .val .null, .val (.int (1 : Int32)), .val (.int (2 : Int32))]) rfl k)
  show own_Go p e below PO (T44.setTop (mkF m 65 #[.val (.ref aT), .val (.ref aA), .val (.ref aB), .val (.ref aR), .val .null, .val (.int (1 : Int32)), .val (.int (2 : Int32))] []))
  refine own_back ?_ (fun t k => XS.iload X44.here hx rfl (hb hby d1_65) rfl k)
  show own_Go p e below PO (T44.setTop (mkF m 67 #[.val (.ref aT), .val (.ref aA), .val (.ref aB), .val (.ref aR), .val .null, .val (.int (1 : Int32)), .val (.int (2 : Int32))] [(.int (2 : Int32))]))
  have hd67_56 : ¬ ((2 : Int32) < (0 : Int32)) := (by decide)
  refine own_back ?_ (fun t k => XS.ifNo X44.here hx rfl (hb hby d1_67) rfl ((if0 _ _).trans (flt hd67_56).1) k)
  show own_Go p e below PO (T44.setTop (mkF m 70 #[.val (.ref aT), .val (.ref aA), .val (.ref aB), .val (.ref aR), .val .null, .val (.int (1 : Int32)), .val (.int (2 : Int32))] []))
  refine own_back ?_ (fun t k => XS.aloadN X44.here hx rfl (hb hby d1_70) rfl rfl k)
  show own_Go p e below PO (T44.setTop (mkF m 71 #[.val (.ref aT), .val (.ref aA), .val (.ref aB), .val (.ref aR), .val .null, .val (.int (1 : Int32)), .val (.int (2 : Int32))] [(.ref aT)]))
  obtain ⟨T57, X57, e57, st57⟩ := getF X44 hx hZ hown (host := "") (Or.inl (hw _ (List.mem_of_getElem? (i := 24) rfl))) Via.refl e44 Fw44 (g := (mkF m 71 #[.val (.ref aT), .val (.ref aA), .val (.ref aB), .val (.ref aR), .val .null, .val (.int (1 : Int32)), .val (.int (2 : Int32))] [(.ref aT)])) rfl rfl (hb hby d1_71)
  refine own_back ?_ st57
  show own_Go p e below PO (T57.setTop (mkF m 74 #[.val (.ref aT), .val (.ref aA), .val (.ref aB), .val (.ref aR), .val .null, .val (.int (1 : Int32)), .val (.int (2 : Int32))] [(.ref b33)]))
  refine own_back ?_ (fun t k => XS.iload X57.here hx rfl (hb hby d1_74) rfl k)
  show own_Go p e below PO (T57.setTop (mkF m 76 #[.val (.ref aT), .val (.ref aA), .val (.ref aB), .val (.ref aR), .val .null, .val (.int (1 : Int32)), .val (.int (2 : Int32))] [(.int (2 : Int32)), (.ref b33)]))
  refine own_back ?_ (fun t k => XS.iload X57.here hx rfl (hb hby d1_76) rfl k)
  show own_Go p e below PO (T57.setTop (mkF m 78 #[.val (.ref aT), .val (.ref aA), .val (.ref aB), .val (.ref aR), .val .null, .val (.int (1 : Int32)), .val (.int (2 : Int32))] [(.int (1 : Int32)), (.int (2 : Int32)), (.ref b33)]))
  obtain ⟨T58, h58, X58, e58, W58, V58, st58⟩ := own_stI X57 hx hZ e57 f44_55 (j := (2 : Int32)) ⟨by decide, by decide⟩ (i := 2) rfl (by show 2 < 3; decide) (g := (mkF m 78 #[.val (.ref aT), .val (.ref aA), .val (.ref aB), .val (.ref aR), .val .null, .val (.int (1 : Int32)), .val (.int (2 : Int32))] [(.int (1 : Int32)), (.int (2 : Int32)), (.ref b33)])) rfl rfl (hb hby d1_78)
  replace V58 : Arv Z h58 b33 k33 .int (3 : Int32) [(.int (0 : Int32)), (.int (0 : Int32)), (.int (1 : Int32))] (.int (0 : Int32)) := V58
  have f58_59 := f44_45.wr W58
  have f58_60 := f44_46.other W58 ne_b3_b33
  have f58_61 := f44_47.wr W58
  have f58_62 := f44_48.other W58 (Or.inl ne_aT_b33)
  have f58_63 := f44_49.other W58 (Or.inl ne_aT_b33)
  have f58_64 := Fw44.other W58 (Or.inl ne_aT_b33)
  have f58_65 := f44_50.other W58 (Or.inl ne_aT_b33)
  have f58_66 := f44_51.other W58 (Or.inl ne_aT_b33)
  have f58_67 := f44_52.wr W58
  have f58_68 := f44_53.other W58 ne_b13_b33
  have f58_69 := f44_54.wr W58
  have K58 : Keep h0 h58 [aT] := (K44).wr W58 (Or.inr sz_b33)
  have N58 := Fr.snoc X58 N44 gn_b33
  have Zh58 : n0 ≤ h58.size := Nat.le_trans Z0 K58.1
  refine own_back ?_ st58
  show own_Go p e below PO (T58.setTop (mkF m 79 #[.val (.ref aT), .val (.ref aA), .val (.ref aB), .val (.ref aR), .val .null, .val (.int (1 : Int32)), .val (.int (2 : Int32))] []))
  refine own_back ?_ (fun t k => XS.iload X58.here hx rfl (hb hby d1_79) rfl k)
  show own_Go p e below PO (T58.setTop (mkF m 81 #[.val (.ref aT), .val (.ref aA), .val (.ref aB), .val (.ref aR), .val .null, .val (.int (1 : Int32)), .val (.int (2 : Int32))] [(.int (1 : Int32))]))
  refine own_back ?_ (fun t k => XS.aloadN X58.here hx rfl (hb hby d1_81) rfl rfl k)
  show own_Go p e below PO (T58.setTop (mkF m 82 #[.val (.ref aT), .val (.ref aA), .val (.ref aB), .val (.ref aR), .val .null, .val (.int (1 : Int32)), .val (.int (2 : Int32))] [(.ref aB), (.int (1 : Int32))]))
  refine own_back ?_ (fun t k => XS.iload X58.here hx rfl (hb hby d1_82) rfl k)
  show own_Go p e below PO (T58.setTop (mkF m 84 #[.val (.ref aT), .val (.ref aA), .val (.ref aB), .val (.ref aR), .val .null, .val (.int (1 : Int32)), .val (.int (2 : Int32))] [(.int (2 : Int32)), (.ref aB), (.int (1 : Int32))]))
  refine own_back ?_ (own_ldI X58 hx hZ e58 (V_B.keep K58 (ninS nB nin0)) (j := (2 : Int32)) (v := (.int (1 : Int32))) ⟨by decide, by decide⟩ rfl (g := (mkF m 84 #[.val (.ref aT), .val (.ref aA), .val (.ref aB), .val (.ref aR), .val .null, .val (.int (1 : Int32)), .val (.int (2 : Int32))] [(.int (2 : Int32)), (.ref aB), (.int (1 : Int32))])) rfl rfl (hb hby d1_84))
  show own_Go p e below PO (T58.setTop (mkF m 85 #[.val (.ref aT), .val (.ref aA), .val (.ref aB), .val (.ref aR), .val .null, .val (.int (1 : Int32)), .val (.int (2 : Int32))] [(.int (1 : Int32)), (.int (1 : Int32))]))
  obtain ⟨_, _, ⟨T70, L70, k70, n70⟩, -, X70, ⟨Lc70, hQ70, l70, y70, z70⟩, st70⟩ := Jvm.LawKit.callS X58 hx (y := (⟨"java/lang/Math", "multiplyExact", "(II)I"⟩ : MethodName)) hown (mvT hZ (hw _ (List.mem_of_getElem? (i := 26) rfl))) (mvT hZ (hw _ (List.mem_of_getElem? (i := 27) rfl))) (mvT hZ (hw _ (List.mem_of_getElem? (i := 28) rfl))) (mvT hZ (hw _ (List.mem_of_getElem? (i := 29) rfl))) (by decide) (backOf (W := 0) (rmMul_1_1 l Z a0 hw []   h58 n0 Zh58 ) hZ (hw _ (List.mem_of_getElem? (i := 29) rfl)) (hw _ (List.mem_of_getElem? (i := 28) rfl)) (by decide) (by decide)) (g := (mkF m 85 #[.val (.ref aT), .val (.ref aA), .val (.ref aB), .val (.ref aR), .val .null, .val (.int (1 : Int32)), .val (.int (2 : Int32))] [(.int (1 : Int32)), (.int (1 : Int32))])) rfl (by rw [hml]; rfl) (argsL := [(.int (1 : Int32)), (.int (1 : Int32))]) (rest := []) (lenOf pd_0 rfl) rfl (by show 2 * 0 + _ ≤ _; exact Nat.le_of_eq rfl) (hb hby d1_85) (fun _ _ => ⟨rfl, e58, (by decide : 3 + 0 ≤ _), (by decide : 9 + 0 ≤ _)⟩)
  dsimp only [Pt.U, Pt.locs, Pt.cells, Pt.slots] at X70 l70 y70 z70 st70 hQ70
  subst l70 y70 z70
  obtain ⟨rfl, N70q, e70⟩ := hQ70
  have N70 := Fr.app N58 N70q
  refine own_back ?_ st70
  show own_Go p e below PO (T70.setTop (mkF m 88 #[.val (.ref aT), .val (.ref aA), .val (.ref aB), .val (.ref aR), .val .null, .val (.int (1 : Int32)), .val (.int (2 : Int32))] [(.int (1 : Int32))]))
  refine own_back ?_ (fun t k => XS.istore X70.here hx rfl (hb hby d1_88) rfl (l' := #[.val (.ref aT), .val (.ref aA), .val (.ref aB), .val (.ref aR), .val .null, .val (.int (1 : Int32)), .val (.int (2 : Int32))]) rfl k)
  show own_Go p e below PO (T70.setTop (mkF m 90 #[.val (.ref aT), .val (.ref aA), .val (.ref aB), .val (.ref aR), .val .null, .val (.int (1 : Int32)), .val (.int (2 : Int32))] []))
  refine own_back ?_ (fun t k => XS.iinc X70.here hx rfl (hb hby d1_90) rfl (l' := #[.val (.ref aT), .val (.ref aA), .val (.ref aB), .val (.ref aR), .val .null, .val (.int (1 : Int32)), .val (.int (1 : Int32))]) rfl k)
  show own_Go p e below PO (T70.setTop (mkF m 93 #[.val (.ref aT), .val (.ref aA), .val (.ref aB), .val (.ref aR), .val .null, .val (.int (1 : Int32)), .val (.int (1 : Int32))] []))
  refine own_back ?_ (fun t k => XS.goto X70.here hx rfl (pc0 := 93) (pc' := 65) rfl (hb hby d1_93) (by decide) (by decide) k)
  show own_Go p e below PO (T70.setTop (mkF m 65 #[.val (.ref aT), .val (.ref aA), .val (.ref aB), .val (.ref aR), .val .null, .val (.int (1 : Int32)), .val (.int (1 : Int32))] []))
  refine own_back ?_ (fun t k => XS.iload X70.here hx rfl (hb hby d1_65) rfl k)
  show own_Go p e below PO (T70.setTop (mkF m 67 #[.val (.ref aT), .val (.ref aA), .val (.ref aB), .val (.ref aR), .val .null, .val (.int (1 : Int32)), .val (.int (1 : Int32))] [(.int (1 : Int32))]))
  have hd67_71 : ¬ ((1 : Int32) < (0 : Int32)) := (by decide)
  refine own_back ?_ (fun t k => XS.ifNo X70.here hx rfl (hb hby d1_67) rfl ((if0 _ _).trans (flt hd67_71).1) k)
  show own_Go p e below PO (T70.setTop (mkF m 70 #[.val (.ref aT), .val (.ref aA), .val (.ref aB), .val (.ref aR), .val .null, .val (.int (1 : Int32)), .val (.int (1 : Int32))] []))
  refine own_back ?_ (fun t k => XS.aloadN X70.here hx rfl (hb hby d1_70) rfl rfl k)
  show own_Go p e below PO (T70.setTop (mkF m 71 #[.val (.ref aT), .val (.ref aA), .val (.ref aB), .val (.ref aR), .val .null, .val (.int (1 : Int32)), .val (.int (1 : Int32))] [(.ref aT)]))
  obtain ⟨T72, X72, e72, st72⟩ := getF X70 hx hZ hown (host := "") (Or.inl (hw _ (List.mem_of_getElem? (i := 24) rfl))) Via.refl e70 f58_64 (g := (mkF m 71 #[.val (.ref aT), .val (.ref aA), .val (.ref aB), .val (.ref aR), .val .null, .val (.int (1 : Int32)), .val (.int (1 : Int32))] [(.ref aT)])) rfl rfl (hb hby d1_71)
  refine own_back ?_ st72
  show own_Go p e below PO (T72.setTop (mkF m 74 #[.val (.ref aT), .val (.ref aA), .val (.ref aB), .val (.ref aR), .val .null, .val (.int (1 : Int32)), .val (.int (1 : Int32))] [(.ref b33)]))
  refine own_back ?_ (fun t k => XS.iload X72.here hx rfl (hb hby d1_74) rfl k)
  show own_Go p e below PO (T72.setTop (mkF m 76 #[.val (.ref aT), .val (.ref aA), .val (.ref aB), .val (.ref aR), .val .null, .val (.int (1 : Int32)), .val (.int (1 : Int32))] [(.int (1 : Int32)), (.ref b33)]))
  refine own_back ?_ (fun t k => XS.iload X72.here hx rfl (hb hby d1_76) rfl k)
  show own_Go p e below PO (T72.setTop (mkF m 78 #[.val (.ref aT), .val (.ref aA), .val (.ref aB), .val (.ref aR), .val .null, .val (.int (1 : Int32)), .val (.int (1 : Int32))] [(.int (1 : Int32)), (.int (1 : Int32)), (.ref b33)]))
  obtain ⟨T73, h73, X73, e73, W73, V73, st73⟩ := own_stI X72 hx hZ e72 V58 (j := (1 : Int32)) ⟨by decide, by decide⟩ (i := 1) rfl (by show 1 < 3; decide) (g := (mkF m 78 #[.val (.ref aT), .val (.ref aA), .val (.ref aB), .val (.ref aR), .val .null, .val (.int (1 : Int32)), .val (.int (1 : Int32))] [(.int (1 : Int32)), (.int (1 : Int32)), (.ref b33)])) rfl rfl (hb hby d1_78)
  replace V73 : Arv Z h73 b33 k33 .int (3 : Int32) [(.int (0 : Int32)), (.int (1 : Int32)), (.int (1 : Int32))] (.int (0 : Int32)) := V73
  have f73_74 := f58_59.wr W73
  have f73_75 := f58_60.other W73 ne_b3_b33
  have f73_76 := f58_61.wr W73
  have f73_77 := f58_62.other W73 (Or.inl ne_aT_b33)
  have f73_78 := f58_63.other W73 (Or.inl ne_aT_b33)
  have f73_79 := f58_64.other W73 (Or.inl ne_aT_b33)
  have f73_80 := f58_65.other W73 (Or.inl ne_aT_b33)
  have f73_81 := f58_66.other W73 (Or.inl ne_aT_b33)
  have f73_82 := f58_67.wr W73
  have f73_83 := f58_68.other W73 ne_b13_b33
  have f73_84 := f58_69.wr W73
  have K73 : Keep h0 h73 [aT] := (K58).wr W73 (Or.inr sz_b33)
  have N73 := Fr.snoc X73 N70 gn_b33
  have Zh73 : n0 ≤ h73.size := Nat.le_trans Z0 K73.1
  refine own_back ?_ st73
  show own_Go p e below PO (T73.setTop (mkF m 79 #[.val (.ref aT), .val (.ref aA), .val (.ref aB), .val (.ref aR), .val .null, .val (.int (1 : Int32)), .val (.int (1 : Int32))] []))
  refine own_back ?_ (fun t k => XS.iload X73.here hx rfl (hb hby d1_79) rfl k)
  show own_Go p e below PO (T73.setTop (mkF m 81 #[.val (.ref aT), .val (.ref aA), .val (.ref aB), .val (.ref aR), .val .null, .val (.int (1 : Int32)), .val (.int (1 : Int32))] [(.int (1 : Int32))]))
  refine own_back ?_ (fun t k => XS.aloadN X73.here hx rfl (hb hby d1_81) rfl rfl k)
  show own_Go p e below PO (T73.setTop (mkF m 82 #[.val (.ref aT), .val (.ref aA), .val (.ref aB), .val (.ref aR), .val .null, .val (.int (1 : Int32)), .val (.int (1 : Int32))] [(.ref aB), (.int (1 : Int32))]))
  refine own_back ?_ (fun t k => XS.iload X73.here hx rfl (hb hby d1_82) rfl k)
  show own_Go p e below PO (T73.setTop (mkF m 84 #[.val (.ref aT), .val (.ref aA), .val (.ref aB), .val (.ref aR), .val .null, .val (.int (1 : Int32)), .val (.int (1 : Int32))] [(.int (1 : Int32)), (.ref aB), (.int (1 : Int32))]))
  refine own_back ?_ (own_ldI X73 hx hZ e73 (V_B.keep K73 (ninS nB nin0)) (j := (1 : Int32)) (v := (.int (1 : Int32))) ⟨by decide, by decide⟩ rfl (g := (mkF m 84 #[.val (.ref aT), .val (.ref aA), .val (.ref aB), .val (.ref aR), .val .null, .val (.int (1 : Int32)), .val (.int (1 : Int32))] [(.int (1 : Int32)), (.ref aB), (.int (1 : Int32))])) rfl rfl (hb hby d1_84))
  show own_Go p e below PO (T73.setTop (mkF m 85 #[.val (.ref aT), .val (.ref aA), .val (.ref aB), .val (.ref aR), .val .null, .val (.int (1 : Int32)), .val (.int (1 : Int32))] [(.int (1 : Int32)), (.int (1 : Int32))]))
  obtain ⟨_, _, ⟨T85, L85, k85, n85⟩, -, X85, ⟨Lc85, hQ85, l85, y85, z85⟩, st85⟩ := Jvm.LawKit.callS X73 hx (y := (⟨"java/lang/Math", "multiplyExact", "(II)I"⟩ : MethodName)) hown (mvT hZ (hw _ (List.mem_of_getElem? (i := 26) rfl))) (mvT hZ (hw _ (List.mem_of_getElem? (i := 27) rfl))) (mvT hZ (hw _ (List.mem_of_getElem? (i := 28) rfl))) (mvT hZ (hw _ (List.mem_of_getElem? (i := 29) rfl))) (by decide) (backOf (W := 0) (rmMul_1_1 l Z a0 hw []   h73 n0 Zh73 ) hZ (hw _ (List.mem_of_getElem? (i := 29) rfl)) (hw _ (List.mem_of_getElem? (i := 28) rfl)) (by decide) (by decide)) (g := (mkF m 85 #[.val (.ref aT), .val (.ref aA), .val (.ref aB), .val (.ref aR), .val .null, .val (.int (1 : Int32)), .val (.int (1 : Int32))] [(.int (1 : Int32)), (.int (1 : Int32))])) rfl (by rw [hml]; rfl) (argsL := [(.int (1 : Int32)), (.int (1 : Int32))]) (rest := []) (lenOf pd_0 rfl) rfl (by show 2 * 0 + _ ≤ _; exact Nat.le_of_eq rfl) (hb hby d1_85) (fun _ _ => ⟨rfl, e73, (by decide : 3 + 0 ≤ _), (by decide : 9 + 0 ≤ _)⟩)
  dsimp only [Pt.U, Pt.locs, Pt.cells, Pt.slots] at X85 l85 y85 z85 st85 hQ85
  subst l85 y85 z85
  obtain ⟨rfl, N85q, e85⟩ := hQ85
  have N85 := Fr.app N73 N85q
  refine own_back ?_ st85
  show own_Go p e below PO (T85.setTop (mkF m 88 #[.val (.ref aT), .val (.ref aA), .val (.ref aB), .val (.ref aR), .val .null, .val (.int (1 : Int32)), .val (.int (1 : Int32))] [(.int (1 : Int32))]))
  refine own_back ?_ (fun t k => XS.istore X85.here hx rfl (hb hby d1_88) rfl (l' := #[.val (.ref aT), .val (.ref aA), .val (.ref aB), .val (.ref aR), .val .null, .val (.int (1 : Int32)), .val (.int (1 : Int32))]) rfl k)
  show own_Go p e below PO (T85.setTop (mkF m 90 #[.val (.ref aT), .val (.ref aA), .val (.ref aB), .val (.ref aR), .val .null, .val (.int (1 : Int32)), .val (.int (1 : Int32))] []))
  refine own_back ?_ (fun t k => XS.iinc X85.here hx rfl (hb hby d1_90) rfl (l' := #[.val (.ref aT), .val (.ref aA), .val (.ref aB), .val (.ref aR), .val .null, .val (.int (1 : Int32)), .val (.int (0 : Int32))]) rfl k)
  show own_Go p e below PO (T85.setTop (mkF m 93 #[.val (.ref aT), .val (.ref aA), .val (.ref aB), .val (.ref aR), .val .null, .val (.int (1 : Int32)), .val (.int (0 : Int32))] []))
  refine own_back ?_ (fun t k => XS.goto X85.here hx rfl (pc0 := 93) (pc' := 65) rfl (hb hby d1_93) (by decide) (by decide) k)
  show own_Go p e below PO (T85.setTop (mkF m 65 #[.val (.ref aT), .val (.ref aA), .val (.ref aB), .val (.ref aR), .val .null, .val (.int (1 : Int32)), .val (.int (0 : Int32))] []))
  refine own_back ?_ (fun t k => XS.iload X85.here hx rfl (hb hby d1_65) rfl k)
  show own_Go p e below PO (T85.setTop (mkF m 67 #[.val (.ref aT), .val (.ref aA), .val (.ref aB), .val (.ref aR), .val .null, .val (.int (1 : Int32)), .val (.int (0 : Int32))] [(.int (0 : Int32))]))
  refine own_back ?_ (fun t k => XS.ifNo X85.here hx rfl (hb hby d1_67) rfl ((if0 _ _).trans (flt Int32.lt_irrefl).1) k)
  show own_Go p e below PO (T85.setTop (mkF m 70 #[.val (.ref aT), .val (.ref aA), .val (.ref aB), .val (.ref aR), .val .null, .val (.int (1 : Int32)), .val (.int (0 : Int32))] []))
  refine own_back ?_ (fun t k => XS.aloadN X85.here hx rfl (hb hby d1_70) rfl rfl k)
  show own_Go p e below PO (T85.setTop (mkF m 71 #[.val (.ref aT), .val (.ref aA), .val (.ref aB), .val (.ref aR), .val .null, .val (.int (1 : Int32)), .val (.int (0 : Int32))] [(.ref aT)]))
  obtain ⟨T86, X86, e86, st86⟩ := getF X85 hx hZ hown (host := "") (Or.inl (hw _ (List.mem_of_getElem? (i := 24) rfl))) Via.refl e85 f73_79 (g := (mkF m 71 #[.val (.ref aT), .val (.ref aA), .val (.ref aB), .val (.ref aR), .val .null, .val (.int (1 : Int32)), .val (.int (0 : Int32))] [(.ref aT)])) rfl rfl (hb hby d1_71)
  refine own_back ?_ st86
  show own_Go p e below PO (T86.setTop (mkF m 74 #[.val (.ref aT), .val (.ref aA), .val (.ref aB), .val (.ref aR), .val .null, .val (.int (1 : Int32)), .val (.int (0 : Int32))] [(.ref b33)]))
  refine own_back ?_ (fun t k => XS.iload X86.here hx rfl (hb hby d1_74) rfl k)
  show own_Go p e below PO (T86.setTop (mkF m 76 #[.val (.ref aT), .val (.ref aA), .val (.ref aB), .val (.ref aR), .val .null, .val (.int (1 : Int32)), .val (.int (0 : Int32))] [(.int (0 : Int32)), (.ref b33)]))
  refine own_back ?_ (fun t k => XS.iload X86.here hx rfl (hb hby d1_76) rfl k)
  show own_Go p e below PO (T86.setTop (mkF m 78 #[.val (.ref aT), .val (.ref aA), .val (.ref aB), .val (.ref aR), .val .null, .val (.int (1 : Int32)), .val (.int (0 : Int32))] [(.int (1 : Int32)), (.int (0 : Int32)), (.ref b33)]))
  obtain ⟨T87, h87, X87, e87, W87, V87, st87⟩ := own_stI X86 hx hZ e86 V73 (j := (0 : Int32)) ⟨by decide, by decide⟩ (i := 0) rfl (by show 0 < 3; decide) (g := (mkF m 78 #[.val (.ref aT), .val (.ref aA), .val (.ref aB), .val (.ref aR), .val .null, .val (.int (1 : Int32)), .val (.int (0 : Int32))] [(.int (1 : Int32)), (.int (0 : Int32)), (.ref b33)])) rfl rfl (hb hby d1_78)
  replace V87 : Arv Z h87 b33 k33 .int (3 : Int32) [(.int (1 : Int32)), (.int (1 : Int32)), (.int (1 : Int32))] (.int (0 : Int32)) := V87
  have f87_88 := f73_74.wr W87
  have f87_89 := f73_75.other W87 ne_b3_b33
  have f87_90 := f73_76.wr W87
  have f87_91 := f73_77.other W87 (Or.inl ne_aT_b33)
  have f87_92 := f73_78.other W87 (Or.inl ne_aT_b33)
  have f87_93 := f73_79.other W87 (Or.inl ne_aT_b33)
  have f87_94 := f73_80.other W87 (Or.inl ne_aT_b33)
  have f87_95 := f73_81.other W87 (Or.inl ne_aT_b33)
  have f87_96 := f73_82.wr W87
  have f87_97 := f73_83.other W87 ne_b13_b33
  have f87_98 := f73_84.wr W87
  have K87 : Keep h0 h87 [aT] := (K73).wr W87 (Or.inr sz_b33)
  have N87 := Fr.snoc X87 N85 gn_b33
  have Zh87 : n0 ≤ h87.size := Nat.le_trans Z0 K87.1
  refine own_back ?_ st87
  show own_Go p e below PO (T87.setTop (mkF m 79 #[.val (.ref aT), .val (.ref aA), .val (.ref aB), .val (.ref aR), .val .null, .val (.int (1 : Int32)), .val (.int (0 : Int32))] []))
  refine own_back ?_ (fun t k => XS.iload X87.here hx rfl (hb hby d1_79) rfl k)
  show own_Go p e below PO (T87.setTop (mkF m 81 #[.val (.ref aT), .val (.ref aA), .val (.ref aB), .val (.ref aR), .val .null, .val (.int (1 : Int32)), .val (.int (0 : Int32))] [(.int (1 : Int32))]))
  refine own_back ?_ (fun t k => XS.aloadN X87.here hx rfl (hb hby d1_81) rfl rfl k)
  show own_Go p e below PO (T87.setTop (mkF m 82 #[.val (.ref aT), .val (.ref aA), .val (.ref aB), .val (.ref aR), .val .null, .val (.int (1 : Int32)), .val (.int (0 : Int32))] [(.ref aB), (.int (1 : Int32))]))
  refine own_back ?_ (fun t k => XS.iload X87.here hx rfl (hb hby d1_82) rfl k)
  show own_Go p e below PO (T87.setTop (mkF m 84 #[.val (.ref aT), .val (.ref aA), .val (.ref aB), .val (.ref aR), .val .null, .val (.int (1 : Int32)), .val (.int (0 : Int32))] [(.int (0 : Int32)), (.ref aB), (.int (1 : Int32))]))
  refine own_back ?_ (own_ldI X87 hx hZ e87 (V_B.keep K87 (ninS nB nin0)) (j := (0 : Int32)) (v := (.int (1 : Int32))) ⟨by decide, by decide⟩ rfl (g := (mkF m 84 #[.val (.ref aT), .val (.ref aA), .val (.ref aB), .val (.ref aR), .val .null, .val (.int (1 : Int32)), .val (.int (0 : Int32))] [(.int (0 : Int32)), (.ref aB), (.int (1 : Int32))])) rfl rfl (hb hby d1_84))
  show own_Go p e below PO (T87.setTop (mkF m 85 #[.val (.ref aT), .val (.ref aA), .val (.ref aB), .val (.ref aR), .val .null, .val (.int (1 : Int32)), .val (.int (0 : Int32))] [(.int (1 : Int32)), (.int (1 : Int32))]))
  obtain ⟨_, _, ⟨T99, L99, k99, n99⟩, -, X99, ⟨Lc99, hQ99, l99, y99, z99⟩, st99⟩ := Jvm.LawKit.callS X87 hx (y := (⟨"java/lang/Math", "multiplyExact", "(II)I"⟩ : MethodName)) hown (mvT hZ (hw _ (List.mem_of_getElem? (i := 26) rfl))) (mvT hZ (hw _ (List.mem_of_getElem? (i := 27) rfl))) (mvT hZ (hw _ (List.mem_of_getElem? (i := 28) rfl))) (mvT hZ (hw _ (List.mem_of_getElem? (i := 29) rfl))) (by decide) (backOf (W := 0) (rmMul_1_1 l Z a0 hw []   h87 n0 Zh87 ) hZ (hw _ (List.mem_of_getElem? (i := 29) rfl)) (hw _ (List.mem_of_getElem? (i := 28) rfl)) (by decide) (by decide)) (g := (mkF m 85 #[.val (.ref aT), .val (.ref aA), .val (.ref aB), .val (.ref aR), .val .null, .val (.int (1 : Int32)), .val (.int (0 : Int32))] [(.int (1 : Int32)), (.int (1 : Int32))])) rfl (by rw [hml]; rfl) (argsL := [(.int (1 : Int32)), (.int (1 : Int32))]) (rest := []) (lenOf pd_0 rfl) rfl (by show 2 * 0 + _ ≤ _; exact Nat.le_of_eq rfl) (hb hby d1_85) (fun _ _ => ⟨rfl, e87, (by decide : 3 + 0 ≤ _), (by decide : 9 + 0 ≤ _)⟩)
  dsimp only [Pt.U, Pt.locs, Pt.cells, Pt.slots] at X99 l99 y99 z99 st99 hQ99
  subst l99 y99 z99
  obtain ⟨rfl, N99q, e99⟩ := hQ99
  have N99 := Fr.app N87 N99q
  refine own_back ?_ st99
  show own_Go p e below PO (T99.setTop (mkF m 88 #[.val (.ref aT), .val (.ref aA), .val (.ref aB), .val (.ref aR), .val .null, .val (.int (1 : Int32)), .val (.int (0 : Int32))] [(.int (1 : Int32))]))
  refine own_back ?_ (fun t k => XS.istore X99.here hx rfl (hb hby d1_88) rfl (l' := #[.val (.ref aT), .val (.ref aA), .val (.ref aB), .val (.ref aR), .val .null, .val (.int (1 : Int32)), .val (.int (0 : Int32))]) rfl k)
  show own_Go p e below PO (T99.setTop (mkF m 90 #[.val (.ref aT), .val (.ref aA), .val (.ref aB), .val (.ref aR), .val .null, .val (.int (1 : Int32)), .val (.int (0 : Int32))] []))
  refine own_back ?_ (fun t k => XS.iinc X99.here hx rfl (hb hby d1_90) rfl (l' := #[.val (.ref aT), .val (.ref aA), .val (.ref aB), .val (.ref aR), .val .null, .val (.int (1 : Int32)), .val (.int (-1 : Int32))]) rfl k)
  show own_Go p e below PO (T99.setTop (mkF m 93 #[.val (.ref aT), .val (.ref aA), .val (.ref aB), .val (.ref aR), .val .null, .val (.int (1 : Int32)), .val (.int (-1 : Int32))] []))
  refine own_back ?_ (fun t k => XS.goto X99.here hx rfl (pc0 := 93) (pc' := 65) rfl (hb hby d1_93) (by decide) (by decide) k)
  show own_Go p e below PO (T99.setTop (mkF m 65 #[.val (.ref aT), .val (.ref aA), .val (.ref aB), .val (.ref aR), .val .null, .val (.int (1 : Int32)), .val (.int (-1 : Int32))] []))
  refine own_back ?_ (fun t k => XS.iload X99.here hx rfl (hb hby d1_65) rfl k)
  show own_Go p e below PO (T99.setTop (mkF m 67 #[.val (.ref aT), .val (.ref aA), .val (.ref aB), .val (.ref aR), .val .null, .val (.int (1 : Int32)), .val (.int (-1 : Int32))] [(.int (-1 : Int32))]))
  have hd67_100 : (-1 : Int32) < (0 : Int32) := (by decide)
  refine own_back ?_ (fun t k => XS.ifYes X99.here hx rfl (pc0 := 67) (pc' := 96) rfl (hb hby d1_67) rfl ((if0 _ _).trans (tlt hd67_100).1) (by decide) (by decide) k)
  show own_Go p e below PO (T99.setTop (mkF m 96 #[.val (.ref aT), .val (.ref aA), .val (.ref aB), .val (.ref aR), .val .null, .val (.int (1 : Int32)), .val (.int (-1 : Int32))] []))
  refine own_back ?_ (fun t k => XS.aloadN X99.here hx rfl (hb hby d1_96) rfl rfl k)
  show own_Go p e below PO (T99.setTop (mkF m 97 #[.val (.ref aT), .val (.ref aA), .val (.ref aB), .val (.ref aR), .val .null, .val (.int (1 : Int32)), .val (.int (-1 : Int32))] [(.ref aT)]))
  refine own_back ?_ (fun t k => XS.aloadN X99.here hx rfl (hb hby d1_97) rfl rfl k)
  show own_Go p e below PO (T99.setTop (mkF m 98 #[.val (.ref aT), .val (.ref aA), .val (.ref aB), .val (.ref aR), .val .null, .val (.int (1 : Int32)), .val (.int (-1 : Int32))] [(.ref aR), (.ref aT)]))
  refine own_back ?_ (fun t k => XS.iload X99.here hx rfl (hb hby d1_98) rfl k)
  show own_Go p e below PO (T99.setTop (mkF m 100 #[.val (.ref aT), .val (.ref aA), .val (.ref aB), .val (.ref aR), .val .null, .val (.int (1 : Int32)), .val (.int (-1 : Int32))] [(.int (1 : Int32)), (.ref aR), (.ref aT)]))
  obtain ⟨aS101, T101, h101, k101, X101, e101, E101, hS101, hk101, hZ, hown, st101⟩ := ldcS (s := s) (vm0 := s.vm) X99 hx hZ hown (hw _ (List.mem_of_getElem? (i := 30) rfl)) (own_wS hw) e99 hS0 (Nat.zero_le _) (g := (mkF m 100 #[.val (.ref aT), .val (.ref aA), .val (.ref aB), .val (.ref aR), .val .null, .val (.int (1 : Int32)), .val (.int (-1 : Int32))] [(.int (1 : Int32)), (.ref aR), (.ref aT)])) rfl (hb hby d1_100) (n := 28) (by decide) (by decide) (by decide) (by decide)
  have f101_102 := f87_88.ext E101
  have f101_103 := f87_89.ext E101
  have f101_104 := f87_90.ext E101
  have f101_105 := f87_91.ext E101
  have f101_106 := f87_92.ext E101
  have f101_107 := f87_93.ext E101
  have f101_108 := f87_94.ext E101
  have f101_109 := f87_95.ext E101
  have f101_110 := f87_96.ext E101
  have f101_111 := f87_97.ext E101
  have f101_112 := f87_98.ext E101
  have f101_113 := V87.ext E101
  have K101 : Keep h0 h101 [aT] := (K87).ext E101
  have Zh101 : n0 ≤ h101.size := Nat.le_trans Z0 K101.1
  refine own_back ?_ st101
  show own_Go p e below PO (T101.setTop (mkF m 102 #[.val (.ref aT), .val (.ref aA), .val (.ref aB), .val (.ref aR), .val .null, .val (.int (1 : Int32)), .val (.int (-1 : Int32))] [(.ref aS101), (.int (1 : Int32)), (.ref aR), (.ref aT)]))
  obtain ⟨_, _, ⟨T114, L114, k114, n114⟩, -, X114, ⟨Lc114, hQ114, l114, y114, z114⟩, st114⟩ := Jvm.LawKit.callS X101 hx (y := (⟨"com/example/nearbound/nearbound/dcop/Constraint", "checkTable", "([DILjava/lang/String;)[D"⟩ : MethodName)) hown (mvT hZ (hw _ (List.mem_of_getElem? (i := 38) rfl))) (mvT hZ (hw _ (List.mem_of_getElem? (i := 39) rfl))) (mvT hZ (hw _ (List.mem_of_getElem? (i := 4) rfl))) (mvT hZ (hw _ (List.mem_of_getElem? (i := 40) rfl))) (by decide) (backOf (W := 1) (rmTab l Z a0 hw [] aR aS101 kR u0 h101 n0 Zh101 (E_R.keep K101) (V_R.keep K101 (ninS nR nin0))) hZ (hw _ (List.mem_of_getElem? (i := 40) rfl)) (hw _ (List.mem_of_getElem? (i := 4) rfl)) (by decide) (by decide)) (g := (mkF m 102 #[.val (.ref aT), .val (.ref aA), .val (.ref aB), .val (.ref aR), .val .null, .val (.int (1 : Int32)), .val (.int (-1 : Int32))] [(.ref aS101), (.int (1 : Int32)), (.ref aR), (.ref aT)])) rfl (by rw [hml]; rfl) (argsL := [(.ref aR), (.int (1 : Int32)), (.ref aS101)]) (rest := [(.ref aT)]) (lenOf pd_1 rfl) rfl (by show 2 * 0 + _ ≤ _; exact Nat.le_of_eq rfl) (hb hby d1_102) (fun _ _ => ⟨rfl, e101, (by decide : 5 + 1 ≤ _), (by decide : 41 + 1 ≤ _)⟩)
  dsimp only [Pt.U, Pt.locs, Pt.cells, Pt.slots] at X114 l114 y114 z114 st114 hQ114
  subst l114 y114 z114
  obtain ⟨aN114, rfl, N114q, Kc114, sz114, EN114, VN114⟩ := hQ114
  have N114 := Fr.app N99 N114q
  have ne_aA_aN114 : aA ≠ aN114 := Nat.ne_of_lt (Nat.lt_of_lt_of_le (V_A.keep K101 (ninS nA nin0)).lt sz114)
  have ne_aB_aN114 : aB ≠ aN114 := Nat.ne_of_lt (Nat.lt_of_lt_of_le (V_B.keep K101 (ninS nB nin0)).lt sz114)
  have ne_aR_aN114 : aR ≠ aN114 := Nat.ne_of_lt (Nat.lt_of_lt_of_le (V_R.keep K101 (ninS nR nin0)).lt sz114)
  have ne_aT_aN114 : aT ≠ aN114 := Nat.ne_of_lt (Nat.lt_of_lt_of_le f101_104.lt sz114)
  have ne_b13_aN114 : b13 ≠ aN114 := Nat.ne_of_lt (Nat.lt_of_lt_of_le f101_110.lt sz114)
  have ne_b3_aN114 : b3 ≠ aN114 := Nat.ne_of_lt (Nat.lt_of_lt_of_le f101_102.lt sz114)
  have ne_b33_aN114 : b33 ≠ aN114 := Nat.ne_of_lt (Nat.lt_of_lt_of_le f101_112.lt sz114)
  have sz_aN114 : h0.size ≤ aN114 := Nat.le_trans K101.1 sz114
  have gn_aN114 : n0 ≤ aN114 := Nat.le_trans Z0 sz_aN114
  have f114_115 := f101_102.keep Kc114
  have f114_116 := f101_103.keep Kc114 nin0
  have f114_117 := f101_104.keep Kc114
  have f114_118 := f101_105.keep Kc114 nin0
  have f114_119 := f101_106.keep Kc114 nin0
  have f114_120 := f101_107.keep Kc114 nin0
  have f114_121 := f101_108.keep Kc114 nin0
  have f114_122 := f101_109.keep Kc114 nin0
  have f114_123 := f101_110.keep Kc114
  have f114_124 := f101_111.keep Kc114 nin0
  have f114_125 := f101_112.keep Kc114
  have f114_126 := f101_113.keep Kc114 nin0
  have K114 : Keep h0 T114.heap [aT] := (K101).trans Kc114 all0
  have Zh114 : n0 ≤ T114.heap.size := Nat.le_trans Z0 K114.1
  have hk114 := Nat.le_trans hk101 Kc114.1
  refine own_back ?_ st114
  show own_Go p e below PO (T114.setTop (mkF m 105 #[.val (.ref aT), .val (.ref aA), .val (.ref aB), .val (.ref aR), .val .null, .val (.int (1 : Int32)), .val (.int (-1 : Int32))] [(.ref aN114), (.ref aT)]))
  obtain ⟨T127, h127, X127, e127, W127, st127⟩ := putF X114 hx hZ hown (host := "") (Or.inl (hw _ (List.mem_of_getElem? (i := 47) rfl))) Via.refl rfl f114_121 f114_117 (Or.inr ⟨(hw _ (List.mem_of_getElem? (i := 48) rfl)), rfl, hnm⟩) (hw _ (List.mem_of_getElem? (i := 3) rfl)) (ty := (.array .double)) (by decide) rfl rfl (g := (mkF m 105 #[.val (.ref aT), .val (.ref aA), .val (.ref aB), .val (.ref aR), .val .null, .val (.int (1 : Int32)), .val (.int (-1 : Int32))] [(.ref aN114), (.ref aT)])) rfl rfl (hb hby d1_105)
  have Fw127 := f114_121.same W127
  have f127_128 := f114_115.wr W127
  have f127_129 := f114_116.other W127 (Ne.symm ne_aT_b3)
  have f127_130 := f114_117.wr W127
  have f127_131 := f114_118.other W127 (Or.inr (slot_ne (Or.inr (hw _ (List.mem_of_getElem? (i := 21) rfl))) (Or.inr (hw _ (List.mem_of_getElem? (i := 48) rfl))) (by decide) (t := (.array .int)) (t' := (.array .double)) (by decide) (by decide)))
  have f127_132 := f114_119.other W127 (Or.inr (slot_ne (Or.inr (hw _ (List.mem_of_getElem? (i := 23) rfl))) (Or.inr (hw _ (List.mem_of_getElem? (i := 48) rfl))) (by decide) (t := (.array .int)) (t' := (.array .double)) (by decide) (by decide)))
  have f127_133 := f114_120.other W127 (Or.inr (slot_ne (Or.inr (hw _ (List.mem_of_getElem? (i := 25) rfl))) (Or.inr (hw _ (List.mem_of_getElem? (i := 48) rfl))) (by decide) (t := (.array .int)) (t' := (.array .double)) (by decide) (by decide)))
  have f127_134 := f114_122.other W127 (Or.inr (slot_ne (Or.inr (hw _ (List.mem_of_getElem? (i := 50) rfl))) (Or.inr (hw _ (List.mem_of_getElem? (i := 48) rfl))) (by decide) (t := (.array .double)) (t' := (.array .double)) (by decide) (by decide)))
  have f127_135 := f114_123.wr W127
  have f127_136 := f114_124.other W127 (Ne.symm ne_aT_b13)
  have f127_137 := f114_125.wr W127
  have f127_138 := f114_126.other W127 (Ne.symm ne_aT_b33)
  have f127_139 := EN114.wr W127
  have f127_140 := VN114.other W127 (Ne.symm ne_aT_aN114)
  have K127 : Keep h0 h127 [aT] := (K114).wr W127 (Or.inl (by simp))
  have N127 := Fr.snoc X127 N114 gn_aT
  have Zh127 : n0 ≤ h127.size := Nat.le_trans Z0 K127.1
  have hk127 := Nat.le_trans hk114 (Keep.of_wr W127).1
  refine own_back ?_ st127
  show own_Go p e below PO (T127.setTop (mkF m 108 #[.val (.ref aT), .val (.ref aA), .val (.ref aB), .val (.ref aR), .val .null, .val (.int (1 : Int32)), .val (.int (-1 : Int32))] []))
  refine own_back ?_ (fun t k => XS.aload X127.here hx rfl (hb hby d1_108) rfl rfl k)
  show own_Go p e below PO (T127.setTop (mkF m 110 #[.val (.ref aT), .val (.ref aA), .val (.ref aB), .val (.ref aR), .val .null, .val (.int (1 : Int32)), .val (.int (-1 : Int32))] [.null]))
  refine own_back ?_ (fun t k => XS.ifnullYes X127.here hx rfl (pc0 := 110) (pc' := 134) rfl (hb hby d1_110) rfl (by decide) (by decide) k)
  show own_Go p e below PO (T127.setTop (mkF m 134 #[.val (.ref aT), .val (.ref aA), .val (.ref aB), .val (.ref aR), .val .null, .val (.int (1 : Int32)), .val (.int (-1 : Int32))] []))
  refine own_back ?_ (fun t k => XS.aloadN X127.here hx rfl (hb hby d1_134) rfl rfl k)
  show own_Go p e below PO (T127.setTop (mkF m 135 #[.val (.ref aT), .val (.ref aA), .val (.ref aB), .val (.ref aR), .val .null, .val (.int (1 : Int32)), .val (.int (-1 : Int32))] [(.ref aT)]))
  refine own_back ?_ (fun t k => XS.aload X127.here hx rfl (hb hby d1_135) rfl rfl k)
  show own_Go p e below PO (T127.setTop (mkF m 137 #[.val (.ref aT), .val (.ref aA), .val (.ref aB), .val (.ref aR), .val .null, .val (.int (1 : Int32)), .val (.int (-1 : Int32))] [.null, (.ref aT)]))
  refine own_back ?_ (fun t k => XS.ifnonnullNo X127.here hx rfl (hb hby d1_137) rfl k)
  show own_Go p e below PO (T127.setTop (mkF m 140 #[.val (.ref aT), .val (.ref aA), .val (.ref aB), .val (.ref aR), .val .null, .val (.int (1 : Int32)), .val (.int (-1 : Int32))] [(.ref aT)]))
  refine own_back ?_ (fun t k => XS.aconstNull X127.here hx rfl (hb hby d1_140) k)
  show own_Go p e below PO (T127.setTop (mkF m 141 #[.val (.ref aT), .val (.ref aA), .val (.ref aB), .val (.ref aR), .val .null, .val (.int (1 : Int32)), .val (.int (-1 : Int32))] [.null, (.ref aT)]))
  refine own_back ?_ (fun t k => XS.goto X127.here hx rfl (pc0 := 141) (pc' := 153) rfl (hb hby d1_141) (by decide) (by decide) k)
  show own_Go p e below PO (T127.setTop (mkF m 153 #[.val (.ref aT), .val (.ref aA), .val (.ref aB), .val (.ref aR), .val .null, .val (.int (1 : Int32)), .val (.int (-1 : Int32))] [.null, (.ref aT)]))
  obtain ⟨T141, h141, X141, e141, W141, st141⟩ := putF X127 hx hZ hown (host := "") (Or.inl (hw _ (List.mem_of_getElem? (i := 49) rfl))) Via.refl e127 f127_134 f127_130 (Or.inr ⟨(hw _ (List.mem_of_getElem? (i := 50) rfl)), rfl, hnm⟩) (hw _ (List.mem_of_getElem? (i := 3) rfl)) (ty := (.array .double)) (by decide) rfl rfl (g := (mkF m 153 #[.val (.ref aT), .val (.ref aA), .val (.ref aB), .val (.ref aR), .val .null, .val (.int (1 : Int32)), .val (.int (-1 : Int32))] [.null, (.ref aT)])) rfl rfl (hb hby d1_153)
  have Fw141 := f127_134.same W141
  have f141_142 := f127_128.wr W141
  have f141_143 := f127_129.other W141 (Ne.symm ne_aT_b3)
  have f141_144 := f127_130.wr W141
  have f141_145 := f127_131.other W141 (Or.inr (slot_ne (Or.inr (hw _ (List.mem_of_getElem? (i := 21) rfl))) (Or.inr (hw _ (List.mem_of_getElem? (i := 50) rfl))) (by decide) (t := (.array .int)) (t' := (.array .double)) (by decide) (by decide)))
  have f141_146 := f127_132.other W141 (Or.inr (slot_ne (Or.inr (hw _ (List.mem_of_getElem? (i := 23) rfl))) (Or.inr (hw _ (List.mem_of_getElem? (i := 50) rfl))) (by decide) (t := (.array .int)) (t' := (.array .double)) (by decide) (by decide)))
  have f141_147 := f127_133.other W141 (Or.inr (slot_ne (Or.inr (hw _ (List.mem_of_getElem? (i := 25) rfl))) (Or.inr (hw _ (List.mem_of_getElem? (i := 50) rfl))) (by decide) (t := (.array .int)) (t' := (.array .double)) (by decide) (by decide)))
  have f141_148 := Fw127.other W141 (Or.inr (slot_ne (Or.inr (hw _ (List.mem_of_getElem? (i := 48) rfl))) (Or.inr (hw _ (List.mem_of_getElem? (i := 50) rfl))) (by decide) (t := (.array .double)) (t' := (.array .double)) (by decide) (by decide)))
  have f141_149 := f127_135.wr W141
  have f141_150 := f127_136.other W141 (Ne.symm ne_aT_b13)
  have f141_151 := f127_137.wr W141
  have f141_152 := f127_138.other W141 (Ne.symm ne_aT_b33)
  have f141_153 := f127_139.wr W141
  have f141_154 := f127_140.other W141 (Ne.symm ne_aT_aN114)
  have K141 : Keep h0 h141 [aT] := (K127).wr W141 (Or.inl (by simp))
  have N141 := Fr.snoc X141 N127 gn_aT
  have Zh141 : n0 ≤ h141.size := Nat.le_trans Z0 K141.1
  have hk141 := Nat.le_trans hk127 (Keep.of_wr W141).1
  refine own_back ?_ st141
  show own_Go p e below PO (T141.setTop (mkF m 156 #[.val (.ref aT), .val (.ref aA), .val (.ref aB), .val (.ref aR), .val .null, .val (.int (1 : Int32)), .val (.int (-1 : Int32))] []))
  refine own_retVW X141 hx Bd.returns (hb hby d1_156) e141 (Bd.notSynchronized) ?_ (by decide) (by decide) (s := s) (vm0 := T101.vm) hS101 hk141
  exact ⟨rfl, N141, K141, b3, sz_b3, f141_145, f141_143⟩
theorem ef_rmH_3 (m : MethodId) (x0 : Addr) (x1 : Int32) : entryFrame m #[(.ref x0), (.int x1)] 6 = mkF m 0 #[.val (.ref x0), .val (.int x1), .unset, .unset, .unset, .unset] [] := by first | (simp [entryFrame, mkF, argsToLocals, Value.category]; done) | rfl
def Q_rmH_3 (xA xB xC pQ : Int32) (h0 : Heap) (n0 : Nat) (v : Option Value) (h : Heap) (L : List Loc) : Prop := v = some (.int (own_h3 xA xB xC pQ)) ∧ Fr n0 L ∧ h = h0
set_option maxRecDepth 65536 in
set_option maxHeartbeats 40000000 in
theorem rmH_3 (l : Launch) (Z : State) (a0 : Array Value) (hw : ∀ d ∈ tables_1, d.before a0 Z = true) (ws : List Jvm.Cond) (aT : Addr) (pQ : Int32) (aA : Addr) (kA : ClassId) (xA xB xC : Int32) (h0 : Heap) (n0 : Nat) (Z0 : n0 ≤ h0.size) (F_S : Fld Z h0 aT "com/example/nearbound/nearbound/dcop/Constraint" "scope" "[I" (.ref aA)) (V_A : Arv Z h0 aA kA .int (3 : Int32) [(.int xA), (.int xB), (.int xC)] (.int (0 : Int32))) :
    MetFree l (⟨"com/example/nearbound/nearbound/dcop/Constraint", "holds", "(I)Z"⟩ : MethodName) (head1 (Jvm.Cond.code (⟨"com/example/nearbound/nearbound/dcop/Constraint", "holds", "(I)Z"⟩ : MethodName) prog_2_method_8_code 6 (some .boolean) :: ws) ({ frames := 0, cells := 0, slots := 0, locals := 0 } : Room)) (fun a U => a = #[(.ref aT), (.int pQ)] ∧ Z.Warmed39 U.vm ∧ U.heap = h0) (fun _ _ _ _ _ => True) (fun _ U o U' => ∃ v L, o = .returned v ∧ Q_rmH_3 xA xB xC pQ h0 n0 v U'.heap L ∧ FrameEnd U o U' L ({ frames := 0, cells := 0, slots := 0, locals := 0 } : Room).cells ({ frames := 0, cells := 0, slots := 0, locals := 0 } : Room).slots) := by
  refine MetFree.of_bodySF (plainFor_of_name pn_0) hisR ?_
  intro p e s m args below meth c s₁ Bd hml0 hP hK
  obtain ⟨rfl, hZ, hh⟩ := hP
  have hx := Bd.exec
  have hby := Bd.bytes
  have hml : c.maxLocals = 6 := hml0
  have hown : s.vm.findClass "com/example/nearbound/nearbound/dcop/Constraint" = some m.cls := findClass_of_methodNamed Bd.named
  have hnm := (name_of_methodNamed Bd.named Bd.method).1
  have X0 : Stand p l e ({ frames := 0, cells := 0, slots := 0, locals := 0 } : Room) s m #[(.ref aT), (.int pQ)] below meth c s₁ [] 0 0 := Stand.of_body Bd
  have e0 : s₁.heap = h0 := by rw [← hh, Bd.state]; rfl
  have N0 := Fr.nil n0
  let PO : Outcome → State → Prop := own_PO s (Q_rmH_3 xA xB xC pQ h0 n0) 0 0
  show own_Go p e below PO (s₁.setTop (entryFrame m #[(.ref aT), (.int pQ)] 6))
  rw [ef_rmH_3]
  show own_Go p e below PO (s₁.setTop (mkF m 0 #[.val (.ref aT), .val (.int pQ), .unset, .unset, .unset, .unset] []))
  refine own_back ?_ (fun t k => XS.aloadN X0.here hx rfl (hb hby d5_0) rfl rfl k)
  show own_Go p e below PO (s₁.setTop (mkF m 1 #[.val (.ref aT), .val (.int pQ), .unset, .unset, .unset, .unset] [(.ref aT)]))
  obtain ⟨T1, X1, e1, st1⟩ := getF X0 hx hZ hown (host := "") (Or.inl (hw _ (List.mem_of_getElem? (i := 20) rfl))) Via.refl e0 F_S (g := (mkF m 1 #[.val (.ref aT), .val (.int pQ), .unset, .unset, .unset, .unset] [(.ref aT)])) rfl rfl (hb hby d5_1)
  refine own_back ?_ st1
  show own_Go p e below PO (T1.setTop (mkF m 4 #[.val (.ref aT), .val (.int pQ), .unset, .unset, .unset, .unset] [(.ref aA)]))
  refine own_back ?_ (fun t k => XS.astoreN X1.here hx rfl (hb hby d5_4) rfl rfl (l' := #[.val (.ref aT), .val (.int pQ), .val (.ref aA), .unset, .unset, .unset]) rfl k)
  show own_Go p e below PO (T1.setTop (mkF m 5 #[.val (.ref aT), .val (.int pQ), .val (.ref aA), .unset, .unset, .unset] []))
  refine own_back ?_ (fun t k => XS.aloadN X1.here hx rfl (hb hby d5_5) rfl rfl k)
  show own_Go p e below PO (T1.setTop (mkF m 6 #[.val (.ref aT), .val (.int pQ), .val (.ref aA), .unset, .unset, .unset] [(.ref aA)]))
  refine own_back ?_ (own_len X1 hx hZ e1 V_A (g := (mkF m 6 #[.val (.ref aT), .val (.int pQ), .val (.ref aA), .unset, .unset, .unset] [(.ref aA)])) rfl rfl (hb hby d5_6))
  show own_Go p e below PO (T1.setTop (mkF m 7 #[.val (.ref aT), .val (.int pQ), .val (.ref aA), .unset, .unset, .unset] [(.int (3 : Int32))]))
  refine own_back ?_ (fun t k => XS.istoreN X1.here hx rfl (hb hby d5_7) rfl (l' := #[.val (.ref aT), .val (.int pQ), .val (.ref aA), .val (.int (3 : Int32)), .unset, .unset]) rfl k)
  show own_Go p e below PO (T1.setTop (mkF m 8 #[.val (.ref aT), .val (.int pQ), .val (.ref aA), .val (.int (3 : Int32)), .unset, .unset] []))
  refine own_back ?_ (fun t k => XS.iconst X1.here hx rfl (hb hby d5_8) k)
  show own_Go p e below PO (T1.setTop (mkF m 9 #[.val (.ref aT), .val (.int pQ), .val (.ref aA), .val (.int (3 : Int32)), .unset, .unset] [(.int (0 : Int32))]))
  refine own_back ?_ (fun t k => XS.istore X1.here hx rfl (hb hby d5_9) rfl (l' := #[.val (.ref aT), .val (.int pQ), .val (.ref aA), .val (.int (3 : Int32)), .val (.int (0 : Int32)), .unset]) rfl k)
  show own_Go p e below PO (T1.setTop (mkF m 11 #[.val (.ref aT), .val (.int pQ), .val (.ref aA), .val (.int (3 : Int32)), .val (.int (0 : Int32)), .unset] []))
  refine own_back ?_ (fun t k => XS.iload X1.here hx rfl (hb hby d5_11) rfl k)
  show own_Go p e below PO (T1.setTop (mkF m 13 #[.val (.ref aT), .val (.int pQ), .val (.ref aA), .val (.int (3 : Int32)), .val (.int (0 : Int32)), .unset] [(.int (0 : Int32))]))
  refine own_back ?_ (fun t k => XS.iloadN X1.here hx rfl (hb hby d5_13) rfl k)
  show own_Go p e below PO (T1.setTop (mkF m 14 #[.val (.ref aT), .val (.int pQ), .val (.ref aA), .val (.int (3 : Int32)), .val (.int (0 : Int32)), .unset] [(.int (3 : Int32)), (.int (0 : Int32))]))
  have hd14_2 : (0 : Int32) < (3 : Int32) := (by decide)
  refine own_back ?_ (fun t k => XS.icmpNo X1.here hx rfl (hb hby d5_14) rfl (tlt hd14_2).2.1 k)
  show own_Go p e below PO (T1.setTop (mkF m 17 #[.val (.ref aT), .val (.int pQ), .val (.ref aA), .val (.int (3 : Int32)), .val (.int (0 : Int32)), .unset] []))
  refine own_back ?_ (fun t k => XS.aloadN X1.here hx rfl (hb hby d5_17) rfl rfl k)
  show own_Go p e below PO (T1.setTop (mkF m 18 #[.val (.ref aT), .val (.int pQ), .val (.ref aA), .val (.int (3 : Int32)), .val (.int (0 : Int32)), .unset] [(.ref aA)]))
  refine own_back ?_ (fun t k => XS.iload X1.here hx rfl (hb hby d5_18) rfl k)
  show own_Go p e below PO (T1.setTop (mkF m 20 #[.val (.ref aT), .val (.int pQ), .val (.ref aA), .val (.int (3 : Int32)), .val (.int (0 : Int32)), .unset] [(.int (0 : Int32)), (.ref aA)]))
  refine own_back ?_ (own_ldI X1 hx hZ e1 V_A (j := (0 : Int32)) (v := (.int xA)) ⟨by decide, by decide⟩ rfl (g := (mkF m 20 #[.val (.ref aT), .val (.int pQ), .val (.ref aA), .val (.int (3 : Int32)), .val (.int (0 : Int32)), .unset] [(.int (0 : Int32)), (.ref aA)])) rfl rfl (hb hby d5_20))
  show own_Go p e below PO (T1.setTop (mkF m 21 #[.val (.ref aT), .val (.int pQ), .val (.ref aA), .val (.int (3 : Int32)), .val (.int (0 : Int32)), .unset] [(.int xA)]))
  refine own_back ?_ (fun t k => XS.istore X1.here hx rfl (hb hby d5_21) rfl (l' := #[.val (.ref aT), .val (.int pQ), .val (.ref aA), .val (.int (3 : Int32)), .val (.int (0 : Int32)), .val (.int xA)]) rfl k)
  show own_Go p e below PO (T1.setTop (mkF m 23 #[.val (.ref aT), .val (.int pQ), .val (.ref aA), .val (.int (3 : Int32)), .val (.int (0 : Int32)), .val (.int xA)] []))
  refine own_back ?_ (fun t k => XS.iload X1.here hx rfl (hb hby d5_23) rfl k)
  show own_Go p e below PO (T1.setTop (mkF m 25 #[.val (.ref aT), .val (.int pQ), .val (.ref aA), .val (.int (3 : Int32)), .val (.int (0 : Int32)), .val (.int xA)] [(.int xA)]))
  refine own_back ?_ (fun t k => XS.iloadN X1.here hx rfl (hb hby d5_25) rfl k)
  show own_Go p e below PO (T1.setTop (mkF m 26 #[.val (.ref aT), .val (.int pQ), .val (.ref aA), .val (.int (3 : Int32)), .val (.int (0 : Int32)), .val (.int xA)] [(.int pQ), (.int xA)]))
  by_cases hc26_3 : xA = pQ
  case pos =>
    refine own_back ?_ (fun t k => XS.icmpNo X1.here hx rfl (hb hby d5_26) rfl (teq hc26_3).2 k)
    show own_Go p e below PO (T1.setTop (mkF m 29 #[.val (.ref aT), .val (.int pQ), .val (.ref aA), .val (.int (3 : Int32)), .val (.int (0 : Int32)), .val (.int xA)] []))
    refine own_back ?_ (fun t k => XS.iconst X1.here hx rfl (hb hby d5_29) k)
    show own_Go p e below PO (T1.setTop (mkF m 30 #[.val (.ref aT), .val (.int pQ), .val (.ref aA), .val (.int (3 : Int32)), .val (.int (0 : Int32)), .val (.int xA)] [(.int (1 : Int32))]))
    refine own_retN X1 hx (t := .boolean) (rest := []) Bd.returns (by decide) (by simp) (hb hby d5_30) e1 (Bd.notSynchronized) ?_ (by decide) (by decide)
    exact ⟨by simp [own_h1, own_h2, own_h3, hd14_2, hc26_3], N0, rfl⟩
  refine own_back ?_ (fun t k => XS.icmpYes X1.here hx rfl (pc0 := 26) (pc' := 31) rfl (hb hby d5_26) rfl (feq hc26_3).2 (by decide) (by decide) k)
  show own_Go p e below PO (T1.setTop (mkF m 31 #[.val (.ref aT), .val (.int pQ), .val (.ref aA), .val (.int (3 : Int32)), .val (.int (0 : Int32)), .val (.int xA)] []))
  refine own_back ?_ (fun t k => XS.iinc X1.here hx rfl (hb hby d5_31) rfl (l' := #[.val (.ref aT), .val (.int pQ), .val (.ref aA), .val (.int (3 : Int32)), .val (.int (1 : Int32)), .val (.int xA)]) rfl k)
  show own_Go p e below PO (T1.setTop (mkF m 34 #[.val (.ref aT), .val (.int pQ), .val (.ref aA), .val (.int (3 : Int32)), .val (.int (1 : Int32)), .val (.int xA)] []))
  refine own_back ?_ (fun t k => XS.goto X1.here hx rfl (pc0 := 34) (pc' := 11) rfl (hb hby d5_34) (by decide) (by decide) k)
  show own_Go p e below PO (T1.setTop (mkF m 11 #[.val (.ref aT), .val (.int pQ), .val (.ref aA), .val (.int (3 : Int32)), .val (.int (1 : Int32)), .val (.int xA)] []))
  refine own_back ?_ (fun t k => XS.iload X1.here hx rfl (hb hby d5_11) rfl k)
  show own_Go p e below PO (T1.setTop (mkF m 13 #[.val (.ref aT), .val (.int pQ), .val (.ref aA), .val (.int (3 : Int32)), .val (.int (1 : Int32)), .val (.int xA)] [(.int (1 : Int32))]))
  refine own_back ?_ (fun t k => XS.iloadN X1.here hx rfl (hb hby d5_13) rfl k)
  show own_Go p e below PO (T1.setTop (mkF m 14 #[.val (.ref aT), .val (.int pQ), .val (.ref aA), .val (.int (3 : Int32)), .val (.int (1 : Int32)), .val (.int xA)] [(.int (3 : Int32)), (.int (1 : Int32))]))
  have hd14_4 : (1 : Int32) < (3 : Int32) := (by decide)
  refine own_back ?_ (fun t k => XS.icmpNo X1.here hx rfl (hb hby d5_14) rfl (tlt hd14_4).2.1 k)
  show own_Go p e below PO (T1.setTop (mkF m 17 #[.val (.ref aT), .val (.int pQ), .val (.ref aA), .val (.int (3 : Int32)), .val (.int (1 : Int32)), .val (.int xA)] []))
  refine own_back ?_ (fun t k => XS.aloadN X1.here hx rfl (hb hby d5_17) rfl rfl k)
  show own_Go p e below PO (T1.setTop (mkF m 18 #[.val (.ref aT), .val (.int pQ), .val (.ref aA), .val (.int (3 : Int32)), .val (.int (1 : Int32)), .val (.int xA)] [(.ref aA)]))
  refine own_back ?_ (fun t k => XS.iload X1.here hx rfl (hb hby d5_18) rfl k)
  show own_Go p e below PO (T1.setTop (mkF m 20 #[.val (.ref aT), .val (.int pQ), .val (.ref aA), .val (.int (3 : Int32)), .val (.int (1 : Int32)), .val (.int xA)] [(.int (1 : Int32)), (.ref aA)]))
  refine own_back ?_ (own_ldI X1 hx hZ e1 V_A (j := (1 : Int32)) (v := (.int xB)) ⟨by decide, by decide⟩ rfl (g := (mkF m 20 #[.val (.ref aT), .val (.int pQ), .val (.ref aA), .val (.int (3 : Int32)), .val (.int (1 : Int32)), .val (.int xA)] [(.int (1 : Int32)), (.ref aA)])) rfl rfl (hb hby d5_20))
  show own_Go p e below PO (T1.setTop (mkF m 21 #[.val (.ref aT), .val (.int pQ), .val (.ref aA), .val (.int (3 : Int32)), .val (.int (1 : Int32)), .val (.int xA)] [(.int xB)]))
  refine own_back ?_ (fun t k => XS.istore X1.here hx rfl (hb hby d5_21) rfl (l' := #[.val (.ref aT), .val (.int pQ), .val (.ref aA), .val (.int (3 : Int32)), .val (.int (1 : Int32)), .val (.int xB)]) rfl k)
  show own_Go p e below PO (T1.setTop (mkF m 23 #[.val (.ref aT), .val (.int pQ), .val (.ref aA), .val (.int (3 : Int32)), .val (.int (1 : Int32)), .val (.int xB)] []))
  refine own_back ?_ (fun t k => XS.iload X1.here hx rfl (hb hby d5_23) rfl k)
  show own_Go p e below PO (T1.setTop (mkF m 25 #[.val (.ref aT), .val (.int pQ), .val (.ref aA), .val (.int (3 : Int32)), .val (.int (1 : Int32)), .val (.int xB)] [(.int xB)]))
  refine own_back ?_ (fun t k => XS.iloadN X1.here hx rfl (hb hby d5_25) rfl k)
  show own_Go p e below PO (T1.setTop (mkF m 26 #[.val (.ref aT), .val (.int pQ), .val (.ref aA), .val (.int (3 : Int32)), .val (.int (1 : Int32)), .val (.int xB)] [(.int pQ), (.int xB)]))
  by_cases hc26_5 : xB = pQ
  case pos =>
    refine own_back ?_ (fun t k => XS.icmpNo X1.here hx rfl (hb hby d5_26) rfl (teq hc26_5).2 k)
    show own_Go p e below PO (T1.setTop (mkF m 29 #[.val (.ref aT), .val (.int pQ), .val (.ref aA), .val (.int (3 : Int32)), .val (.int (1 : Int32)), .val (.int xB)] []))
    refine own_back ?_ (fun t k => XS.iconst X1.here hx rfl (hb hby d5_29) k)
    show own_Go p e below PO (T1.setTop (mkF m 30 #[.val (.ref aT), .val (.int pQ), .val (.ref aA), .val (.int (3 : Int32)), .val (.int (1 : Int32)), .val (.int xB)] [(.int (1 : Int32))]))
    refine own_retN X1 hx (t := .boolean) (rest := []) Bd.returns (by decide) (by simp) (hb hby d5_30) e1 (Bd.notSynchronized) ?_ (by decide) (by decide)
    exact ⟨by simp [own_h1, own_h2, own_h3, hd14_2, hc26_3, hd14_4, hc26_5], N0, rfl⟩
  refine own_back ?_ (fun t k => XS.icmpYes X1.here hx rfl (pc0 := 26) (pc' := 31) rfl (hb hby d5_26) rfl (feq hc26_5).2 (by decide) (by decide) k)
  show own_Go p e below PO (T1.setTop (mkF m 31 #[.val (.ref aT), .val (.int pQ), .val (.ref aA), .val (.int (3 : Int32)), .val (.int (1 : Int32)), .val (.int xB)] []))
  refine own_back ?_ (fun t k => XS.iinc X1.here hx rfl (hb hby d5_31) rfl (l' := #[.val (.ref aT), .val (.int pQ), .val (.ref aA), .val (.int (3 : Int32)), .val (.int (2 : Int32)), .val (.int xB)]) rfl k)
  show own_Go p e below PO (T1.setTop (mkF m 34 #[.val (.ref aT), .val (.int pQ), .val (.ref aA), .val (.int (3 : Int32)), .val (.int (2 : Int32)), .val (.int xB)] []))
  refine own_back ?_ (fun t k => XS.goto X1.here hx rfl (pc0 := 34) (pc' := 11) rfl (hb hby d5_34) (by decide) (by decide) k)
  show own_Go p e below PO (T1.setTop (mkF m 11 #[.val (.ref aT), .val (.int pQ), .val (.ref aA), .val (.int (3 : Int32)), .val (.int (2 : Int32)), .val (.int xB)] []))
  refine own_back ?_ (fun t k => XS.iload X1.here hx rfl (hb hby d5_11) rfl k)
  show own_Go p e below PO (T1.setTop (mkF m 13 #[.val (.ref aT), .val (.int pQ), .val (.ref aA), .val (.int (3 : Int32)), .val (.int (2 : Int32)), .val (.int xB)] [(.int (2 : Int32))]))
  refine own_back ?_ (fun t k => XS.iloadN X1.here hx rfl (hb hby d5_13) rfl k)
  show own_Go p e below PO (T1.setTop (mkF m 14 #[.val (.ref aT), .val (.int pQ), .val (.ref aA), .val (.int (3 : Int32)), .val (.int (2 : Int32)), .val (.int xB)] [(.int (3 : Int32)), (.int (2 : Int32))]))
  have hd14_6 : (2 : Int32) < (3 : Int32) := (by decide)
  refine own_back ?_ (fun t k => XS.icmpNo X1.here hx rfl (hb hby d5_14) rfl (tlt hd14_6).2.1 k)
  show own_Go p e below PO (T1.setTop (mkF m 17 #[.val (.ref aT), .val (.int pQ), .val (.ref aA), .val (.int (3 : Int32)), .val (.int (2 : Int32)), .val (.int xB)] []))
  refine own_back ?_ (fun t k => XS.aloadN X1.here hx rfl (hb hby d5_17) rfl rfl k)
  show own_Go p e below PO (T1.setTop (mkF m 18 #[.val (.ref aT), .val (.int pQ), .val (.ref aA), .val (.int (3 : Int32)), .val (.int (2 : Int32)), .val (.int xB)] [(.ref aA)]))
  refine own_back ?_ (fun t k => XS.iload X1.here hx rfl (hb hby d5_18) rfl k)
  show own_Go p e below PO (T1.setTop (mkF m 20 #[.val (.ref aT), .val (.int pQ), .val (.ref aA), .val (.int (3 : Int32)), .val (.int (2 : Int32)), .val (.int xB)] [(.int (2 : Int32)), (.ref aA)]))
  refine own_back ?_ (own_ldI X1 hx hZ e1 V_A (j := (2 : Int32)) (v := (.int xC)) ⟨by decide, by decide⟩ rfl (g := (mkF m 20 #[.val (.ref aT), .val (.int pQ), .val (.ref aA), .val (.int (3 : Int32)), .val (.int (2 : Int32)), .val (.int xB)] [(.int (2 : Int32)), (.ref aA)])) rfl rfl (hb hby d5_20))
  show own_Go p e below PO (T1.setTop (mkF m 21 #[.val (.ref aT), .val (.int pQ), .val (.ref aA), .val (.int (3 : Int32)), .val (.int (2 : Int32)), .val (.int xB)] [(.int xC)]))
  refine own_back ?_ (fun t k => XS.istore X1.here hx rfl (hb hby d5_21) rfl (l' := #[.val (.ref aT), .val (.int pQ), .val (.ref aA), .val (.int (3 : Int32)), .val (.int (2 : Int32)), .val (.int xC)]) rfl k)
  show own_Go p e below PO (T1.setTop (mkF m 23 #[.val (.ref aT), .val (.int pQ), .val (.ref aA), .val (.int (3 : Int32)), .val (.int (2 : Int32)), .val (.int xC)] []))
  refine own_back ?_ (fun t k => XS.iload X1.here hx rfl (hb hby d5_23) rfl k)
  show own_Go p e below PO (T1.setTop (mkF m 25 #[.val (.ref aT), .val (.int pQ), .val (.ref aA), .val (.int (3 : Int32)), .val (.int (2 : Int32)), .val (.int xC)] [(.int xC)]))
  refine own_back ?_ (fun t k => XS.iloadN X1.here hx rfl (hb hby d5_25) rfl k)
  show own_Go p e below PO (T1.setTop (mkF m 26 #[.val (.ref aT), .val (.int pQ), .val (.ref aA), .val (.int (3 : Int32)), .val (.int (2 : Int32)), .val (.int xC)] [(.int pQ), (.int xC)]))
  by_cases hc26_7 : xC = pQ
  case pos =>
    refine own_back ?_ (fun t k => XS.icmpNo X1.here hx rfl (hb hby d5_26) rfl (teq hc26_7).2 k)
    show own_Go p e below PO (T1.setTop (mkF m 29 #[.val (.ref aT), .val (.int pQ), .val (.ref aA), .val (.int (3 : Int32)), .val (.int (2 : Int32)), .val (.int xC)] []))
    refine own_back ?_ (fun t k => XS.iconst X1.here hx rfl (hb hby d5_29) k)
    show own_Go p e below PO (T1.setTop (mkF m 30 #[.val (.ref aT), .val (.int pQ), .val (.ref aA), .val (.int (3 : Int32)), .val (.int (2 : Int32)), .val (.int xC)] [(.int (1 : Int32))]))
    refine own_retN X1 hx (t := .boolean) (rest := []) Bd.returns (by decide) (by simp) (hb hby d5_30) e1 (Bd.notSynchronized) ?_ (by decide) (by decide)
    exact ⟨by simp [own_h1, own_h2, own_h3, hd14_2, hc26_3, hd14_4, hc26_5, hd14_6, hc26_7], N0, rfl⟩
  refine own_back ?_ (fun t k => XS.icmpYes X1.here hx rfl (pc0 := 26) (pc' := 31) rfl (hb hby d5_26) rfl (feq hc26_7).2 (by decide) (by decide) k)
  show own_Go p e below PO (T1.setTop (mkF m 31 #[.val (.ref aT), .val (.int pQ), .val (.ref aA), .val (.int (3 : Int32)), .val (.int (2 : Int32)), .val (.int xC)] []))
  refine own_back ?_ (fun t k => XS.iinc X1.here hx rfl (hb hby d5_31) rfl (l' := #[.val (.ref aT), .val (.int pQ), .val (.ref aA), .val (.int (3 : Int32)), .val (.int (3 : Int32)), .val (.int xC)]) rfl k)
  show own_Go p e below PO (T1.setTop (mkF m 34 #[.val (.ref aT), .val (.int pQ), .val (.ref aA), .val (.int (3 : Int32)), .val (.int (3 : Int32)), .val (.int xC)] []))
  refine own_back ?_ (fun t k => XS.goto X1.here hx rfl (pc0 := 34) (pc' := 11) rfl (hb hby d5_34) (by decide) (by decide) k)
  show own_Go p e below PO (T1.setTop (mkF m 11 #[.val (.ref aT), .val (.int pQ), .val (.ref aA), .val (.int (3 : Int32)), .val (.int (3 : Int32)), .val (.int xC)] []))
  refine own_back ?_ (fun t k => XS.iload X1.here hx rfl (hb hby d5_11) rfl k)
  show own_Go p e below PO (T1.setTop (mkF m 13 #[.val (.ref aT), .val (.int pQ), .val (.ref aA), .val (.int (3 : Int32)), .val (.int (3 : Int32)), .val (.int xC)] [(.int (3 : Int32))]))
  refine own_back ?_ (fun t k => XS.iloadN X1.here hx rfl (hb hby d5_13) rfl k)
  show own_Go p e below PO (T1.setTop (mkF m 14 #[.val (.ref aT), .val (.int pQ), .val (.ref aA), .val (.int (3 : Int32)), .val (.int (3 : Int32)), .val (.int xC)] [(.int (3 : Int32)), (.int (3 : Int32))]))
  refine own_back ?_ (fun t k => XS.icmpYes X1.here hx rfl (pc0 := 14) (pc' := 37) rfl (hb hby d5_14) rfl (flt Int32.lt_irrefl).2.1 (by decide) (by decide) k)
  show own_Go p e below PO (T1.setTop (mkF m 37 #[.val (.ref aT), .val (.int pQ), .val (.ref aA), .val (.int (3 : Int32)), .val (.int (3 : Int32)), .val (.int xC)] []))
  refine own_back ?_ (fun t k => XS.iconst X1.here hx rfl (hb hby d5_37) k)
  show own_Go p e below PO (T1.setTop (mkF m 38 #[.val (.ref aT), .val (.int pQ), .val (.ref aA), .val (.int (3 : Int32)), .val (.int (3 : Int32)), .val (.int xC)] [(.int (0 : Int32))]))
  refine own_retN X1 hx (t := .boolean) (rest := []) Bd.returns (by decide) (by simp) (hb hby d5_38) e1 (Bd.notSynchronized) ?_ (by decide) (by decide)
  exact ⟨by simp [own_h1, own_h2, own_h3, hd14_2, hc26_3, hd14_4, hc26_5, hd14_6, hc26_7], N0, rfl⟩
theorem pd_2 : parseMethodDescriptor "([I[I[D[D)V" = some ⟨[(.array .int), (.array .int), (.array .double), (.array .double)], none⟩ := by decide +kernel
theorem pd_3 : parseMethodDescriptor "(I)Z" = some ⟨[.int], some .boolean⟩ := by decide +kernel
theorem pn_1 : plainName "com/example/nearbound/nearbound/dcop/ConstraintHoldsPinLaw" = true := by first | (simp [plainName, overriddenIn]; done) | decide +kernel
theorem ef_rm0 (m : MethodId) (x0 : Int32) (x1 : Int32) (x2 : Int32) (x3 : Int32) (x4 : Int32) : entryFrame m #[(.int x0), (.int x1), (.int x2), (.int x3), (.int x4)] maxLocals = mkF m 0 #[.val (.int x0), .val (.int x1), .val (.int x2), .val (.int x3), .val (.int x4), .unset, .unset, .unset, .unset, .unset, .unset, .unset, .unset] [] := by first | (simp [entryFrame, mkF, argsToLocals, Value.category, maxLocals]; done) | rfl
def Q_rm0 (n0 : Nat) (v : Option Value) (h : Heap) (L : List Loc) : Prop := v = some (.int 1) ∧ Fr n0 L
set_option maxRecDepth 65536 in
set_option maxHeartbeats 40000000 in
theorem rm0 (l : Launch) (Z : State) (a0 : Array Value) (hw : ∀ d ∈ tables_1, d.before a0 Z = true) (ws : List Jvm.Cond) (pA : Int32) (pB : Int32) (pC : Int32) (pD : Int32) (pE : Int32)  (h0 : Heap) (n0 : Nat) (Z0 : n0 ≤ h0.size)  :
    MetFree l x (head1 (Jvm.Cond.code x code maxLocals ret :: ws) room_1) (fun a U => a = #[(.int pA), (.int pB), (.int pC), (.int pD), (.int pE)] ∧ Z.Warmed39 U.vm ∧ U.heap = h0) (fun _ _ _ _ _ => True) (fun _ U o U' => ∃ v L, o = .returned v ∧ Q_rm0 n0 v U'.heap L ∧ ReturnedEndW U o U' L room_1.cells room_1.slots) := by
  refine MetFree.of_bodySF (plainFor_of_name pn_1) hisR ?_
  intro p e s m args below meth c s₁ Bd hml0 hP hK
  obtain ⟨rfl, hZ, hh⟩ := hP
  have hx := Bd.exec
  have hby := Bd.bytes
  have hml : c.maxLocals = 13 := hml0
  have hown : s.vm.findClass "com/example/nearbound/nearbound/dcop/ConstraintHoldsPinLaw" = some m.cls := findClass_of_methodNamed Bd.named
  have hnm := (name_of_methodNamed Bd.named Bd.method).1
  have X0 : Stand p l e room_1 s m #[(.int pA), (.int pB), (.int pC), (.int pD), (.int pE)] below meth c s₁ [] 0 0 := Stand.of_body Bd
  have e0 : s₁.heap = h0 := by rw [← hh, Bd.state]; rfl
  have N0 := Fr.nil n0
  have hS0 : s.Since s.vm 0 := (State.WarmedH.refl s).since 0
  let PO : Outcome → State → Prop := own_POW s (Q_rm0 n0) 32 1152
  show own_Go p e below PO (s₁.setTop (entryFrame m #[(.int pA), (.int pB), (.int pC), (.int pD), (.int pE)] maxLocals))
  rw [ef_rm0]
  show own_Go p e below PO (s₁.setTop (mkF m 0 #[.val (.int pA), .val (.int pB), .val (.int pC), .val (.int pD), .val (.int pE), .unset, .unset, .unset, .unset, .unset, .unset, .unset, .unset] []))
  refine own_back ?_ (fun t k => XS.iload X0.here hx rfl (hb hby at_0) rfl k)
  show own_Go p e below PO (s₁.setTop (mkF m 2 #[.val (.int pA), .val (.int pB), .val (.int pC), .val (.int pD), .val (.int pE), .unset, .unset, .unset, .unset, .unset, .unset, .unset, .unset] [(.int pE)]))
  refine own_back ?_ (fun t k => XS.iconst X0.here hx rfl (hb hby at_2) k)
  show own_Go p e below PO (s₁.setTop (mkF m 3 #[.val (.int pA), .val (.int pB), .val (.int pC), .val (.int pD), .val (.int pE), .unset, .unset, .unset, .unset, .unset, .unset, .unset, .unset] [(.int (2 : Int32)), (.int pE)]))
  refine own_back ?_ (fun t k => XS.iushr X0.here hx rfl (hb hby at_3) rfl k)
  show own_Go p e below PO (s₁.setTop (mkF m 4 #[.val (.int pA), .val (.int pB), .val (.int pC), .val (.int pD), .val (.int pE), .unset, .unset, .unset, .unset, .unset, .unset, .unset, .unset] [(.int ((pE.toUInt32 >>> ((2 : Int32) &&& 31).toUInt32).toInt32))]))
  refine own_back ?_ (fun t k => XS.iconst X0.here hx rfl (hb hby at_4) k)
  show own_Go p e below PO (s₁.setTop (mkF m 5 #[.val (.int pA), .val (.int pB), .val (.int pC), .val (.int pD), .val (.int pE), .unset, .unset, .unset, .unset, .unset, .unset, .unset, .unset] [(.int (3 : Int32)), (.int ((pE.toUInt32 >>> ((2 : Int32) &&& 31).toUInt32).toInt32))]))
  refine own_back ?_ (fun t k => iremM X0 hx rfl (hb hby at_5) rfl (by decide) k)
  show own_Go p e below PO (s₁.setTop (mkF m 6 #[.val (.int pA), .val (.int pB), .val (.int pC), .val (.int pD), .val (.int pE), .unset, .unset, .unset, .unset, .unset, .unset, .unset, .unset] [(.int (((pE.toUInt32 >>> ((2 : Int32) &&& 31).toUInt32).toInt32) % (3 : Int32)))]))
  refine own_back ?_ (fun t k => XS.iconst X0.here hx rfl (hb hby at_6) k)
  show own_Go p e below PO (s₁.setTop (mkF m 7 #[.val (.int pA), .val (.int pB), .val (.int pC), .val (.int pD), .val (.int pE), .unset, .unset, .unset, .unset, .unset, .unset, .unset, .unset] [(.int (1 : Int32)), (.int (((pE.toUInt32 >>> ((2 : Int32) &&& 31).toUInt32).toInt32) % (3 : Int32)))]))
  refine own_back ?_ (fun t k => XS.iadd X0.here hx rfl (hb hby at_7) rfl k)
  show own_Go p e below PO (s₁.setTop (mkF m 8 #[.val (.int pA), .val (.int pB), .val (.int pC), .val (.int pD), .val (.int pE), .unset, .unset, .unset, .unset, .unset, .unset, .unset, .unset] [(.int ((((pE.toUInt32 >>> ((2 : Int32) &&& 31).toUInt32).toInt32) % (3 : Int32)) + (1 : Int32)))]))
  refine own_back ?_ (fun t k => XS.istore X0.here hx rfl (hb hby at_8) rfl (l' := #[.val (.int pA), .val (.int pB), .val (.int pC), .val (.int pD), .val (.int pE), .val (.int ((((pE.toUInt32 >>> ((2 : Int32) &&& 31).toUInt32).toInt32) % (3 : Int32)) + (1 : Int32))), .unset, .unset, .unset, .unset, .unset, .unset, .unset]) rfl k)
  show own_Go p e below PO (s₁.setTop (mkF m 10 #[.val (.int pA), .val (.int pB), .val (.int pC), .val (.int pD), .val (.int pE), .val (.int ((((pE.toUInt32 >>> ((2 : Int32) &&& 31).toUInt32).toInt32) % (3 : Int32)) + (1 : Int32))), .unset, .unset, .unset, .unset, .unset, .unset, .unset] []))
  refine own_gen (A := Int32) ((((pE.toUInt32 >>> ((2 : Int32) &&& 31).toUInt32).toInt32) % (3 : Int32)) + (1 : Int32)) (fun v5_1 => own_Go p e below PO (s₁.setTop (mkF m 10 #[.val (.int pA), .val (.int pB), .val (.int pC), .val (.int pD), .val (.int pE), .val (.int v5_1), .unset, .unset, .unset, .unset, .unset, .unset, .unset] []))) ?_
  intro v5_1 h_v5_1
  show own_Go p e below PO (s₁.setTop (mkF m 10 #[.val (.int pA), .val (.int pB), .val (.int pC), .val (.int pD), .val (.int pE), .val (.int v5_1), .unset, .unset, .unset, .unset, .unset, .unset, .unset] []))
  rcases own_ar h_v5_1 with q2 | q2 | q2
  · subst q2
    show own_Go p e below PO (s₁.setTop (mkF m 10 #[.val (.int pA), .val (.int pB), .val (.int pC), .val (.int pD), .val (.int pE), .val (.int (1 : Int32)), .unset, .unset, .unset, .unset, .unset, .unset, .unset] []))
    refine own_back ?_ (fun t k => XS.iload X0.here hx rfl (hb hby at_10) rfl k)
    show own_Go p e below PO (s₁.setTop (mkF m 12 #[.val (.int pA), .val (.int pB), .val (.int pC), .val (.int pD), .val (.int pE), .val (.int (1 : Int32)), .unset, .unset, .unset, .unset, .unset, .unset, .unset] [(.int pE)]))
    refine own_back ?_ (fun t k => XS.iconst X0.here hx rfl (hb hby at_12) k)
    show own_Go p e below PO (s₁.setTop (mkF m 13 #[.val (.int pA), .val (.int pB), .val (.int pC), .val (.int pD), .val (.int pE), .val (.int (1 : Int32)), .unset, .unset, .unset, .unset, .unset, .unset, .unset] [(.int (3 : Int32)), (.int pE)]))
    refine own_back ?_ (fun t k => XS.iand X0.here hx rfl (hb hby at_13) rfl k)
    show own_Go p e below PO (s₁.setTop (mkF m 14 #[.val (.int pA), .val (.int pB), .val (.int pC), .val (.int pD), .val (.int pE), .val (.int (1 : Int32)), .unset, .unset, .unset, .unset, .unset, .unset, .unset] [(.int (pE &&& (3 : Int32)))]))
    refine own_back ?_ (fun t k => XS.istore X0.here hx rfl (hb hby at_14) rfl (l' := #[.val (.int pA), .val (.int pB), .val (.int pC), .val (.int pD), .val (.int pE), .val (.int (1 : Int32)), .val (.int (pE &&& (3 : Int32))), .unset, .unset, .unset, .unset, .unset, .unset]) rfl k)
    show own_Go p e below PO (s₁.setTop (mkF m 16 #[.val (.int pA), .val (.int pB), .val (.int pC), .val (.int pD), .val (.int pE), .val (.int (1 : Int32)), .val (.int (pE &&& (3 : Int32))), .unset, .unset, .unset, .unset, .unset, .unset] []))
    refine own_gen (A := Int32) (pE &&& (3 : Int32)) (fun v6_3 => own_Go p e below PO (s₁.setTop (mkF m 16 #[.val (.int pA), .val (.int pB), .val (.int pC), .val (.int pD), .val (.int pE), .val (.int (1 : Int32)), .val (.int v6_3), .unset, .unset, .unset, .unset, .unset, .unset] []))) ?_
    intro v6_3 h_v6_3
    show own_Go p e below PO (s₁.setTop (mkF m 16 #[.val (.int pA), .val (.int pB), .val (.int pC), .val (.int pD), .val (.int pE), .val (.int (1 : Int32)), .val (.int v6_3), .unset, .unset, .unset, .unset, .unset, .unset] []))
    refine own_back ?_ (fun t k => XS.iload X0.here hx rfl (hb hby at_16) rfl k)
    show own_Go p e below PO (s₁.setTop (mkF m 18 #[.val (.int pA), .val (.int pB), .val (.int pC), .val (.int pD), .val (.int pE), .val (.int (1 : Int32)), .val (.int v6_3), .unset, .unset, .unset, .unset, .unset, .unset] [(.int (1 : Int32))]))
    obtain ⟨T4, h4, k4, X4, e4, E4, A4, Ex4, st4⟩ := newPE X0 hx hZ (hw _ (List.mem_of_getElem? (i := 0) rfl)) e0 (g := (mkF m 18 #[.val (.int pA), .val (.int pB), .val (.int pC), .val (.int pD), .val (.int pE), .val (.int (1 : Int32)), .val (.int v6_3), .unset, .unset, .unset, .unset, .unset, .unset] [(.int (1 : Int32))])) rfl (hb hby at_18) rfl (by decide) (cap := 1) (by decide) (by decide) (by decide) (by decide) (ad := "[I") (by decide)
    obtain ⟨b4, g4⟩ : ∃ z, z = h0.size := ⟨_, rfl⟩
    rw [← g4] at A4 Ex4 st4
    have sz_b4 : h0.size ≤ b4 := Nat.le_of_eq g4.symm
    have gn_b4 : n0 ≤ b4 := Nat.le_trans Z0 sz_b4
    have K4 : Keep h0 h4 [] := (Keep.refl h0 []).ext E4
    have Zh4 : n0 ≤ h4.size := Nat.le_trans Z0 K4.1
    have V4 : Arv Z h4 b4 k4 .int (1 : Int32) [(.int (0 : Int32))] (.int (0 : Int32)) := (Arv.new A4 (by decide)).pad (pad_rep [] (.int (0 : Int32)) 1)
    refine own_back ?_ st4
    show own_Go p e below PO (T4.setTop (mkF m 20 #[.val (.int pA), .val (.int pB), .val (.int pC), .val (.int pD), .val (.int pE), .val (.int (1 : Int32)), .val (.int v6_3), .unset, .unset, .unset, .unset, .unset, .unset] [(.ref b4)]))
    refine own_back ?_ (fun t k => XS.astore X4.here hx rfl (hb hby at_20) rfl rfl (l' := #[.val (.int pA), .val (.int pB), .val (.int pC), .val (.int pD), .val (.int pE), .val (.int (1 : Int32)), .val (.int v6_3), .val (.ref b4), .unset, .unset, .unset, .unset, .unset]) rfl k)
    show own_Go p e below PO (T4.setTop (mkF m 22 #[.val (.int pA), .val (.int pB), .val (.int pC), .val (.int pD), .val (.int pE), .val (.int (1 : Int32)), .val (.int v6_3), .val (.ref b4), .unset, .unset, .unset, .unset, .unset] []))
    refine own_back ?_ (fun t k => XS.iload X4.here hx rfl (hb hby at_22) rfl k)
    show own_Go p e below PO (T4.setTop (mkF m 24 #[.val (.int pA), .val (.int pB), .val (.int pC), .val (.int pD), .val (.int pE), .val (.int (1 : Int32)), .val (.int v6_3), .val (.ref b4), .unset, .unset, .unset, .unset, .unset] [(.int (1 : Int32))]))
    obtain ⟨T5, h5, k5, X5, e5, E5, A5, Ex5, st5⟩ := newPE X4 hx hZ (hw _ (List.mem_of_getElem? (i := 0) rfl)) e4 (g := (mkF m 24 #[.val (.int pA), .val (.int pB), .val (.int pC), .val (.int pD), .val (.int pE), .val (.int (1 : Int32)), .val (.int v6_3), .val (.ref b4), .unset, .unset, .unset, .unset, .unset] [(.int (1 : Int32))])) rfl (hb hby at_24) rfl (by decide) (cap := 1) (by decide) (by decide) (by decide) (by decide) (ad := "[I") (by decide)
    obtain ⟨b5, g5⟩ : ∃ z, z = h4.size := ⟨_, rfl⟩
    rw [← g5] at A5 Ex5 st5
    have ne_b4_b5 : b4 ≠ b5 := Nat.ne_of_lt (Nat.lt_of_lt_of_le Ex4.lt (Nat.le_of_eq g5.symm))
    have sz_b5 : h0.size ≤ b5 := Nat.le_trans K4.1 (Nat.le_of_eq g5.symm)
    have gn_b5 : n0 ≤ b5 := Nat.le_trans Z0 sz_b5
    have f5_6 := Ex4.ext E5
    have f5_7 := V4.ext E5
    have K5 : Keep h0 h5 [] := (K4).ext E5
    have Zh5 : n0 ≤ h5.size := Nat.le_trans Z0 K5.1
    have V5 : Arv Z h5 b5 k5 .int (1 : Int32) [(.int (0 : Int32))] (.int (0 : Int32)) := (Arv.new A5 (by decide)).pad (pad_rep [] (.int (0 : Int32)) 1)
    refine own_back ?_ st5
    show own_Go p e below PO (T5.setTop (mkF m 26 #[.val (.int pA), .val (.int pB), .val (.int pC), .val (.int pD), .val (.int pE), .val (.int (1 : Int32)), .val (.int v6_3), .val (.ref b4), .unset, .unset, .unset, .unset, .unset] [(.ref b5)]))
    refine own_back ?_ (fun t k => XS.astore X5.here hx rfl (hb hby at_26) rfl rfl (l' := #[.val (.int pA), .val (.int pB), .val (.int pC), .val (.int pD), .val (.int pE), .val (.int (1 : Int32)), .val (.int v6_3), .val (.ref b4), .val (.ref b5), .unset, .unset, .unset, .unset]) rfl k)
    show own_Go p e below PO (T5.setTop (mkF m 28 #[.val (.int pA), .val (.int pB), .val (.int pC), .val (.int pD), .val (.int pE), .val (.int (1 : Int32)), .val (.int v6_3), .val (.ref b4), .val (.ref b5), .unset, .unset, .unset, .unset] []))
    refine own_back ?_ (fun t k => XS.aload X5.here hx rfl (hb hby at_28) rfl rfl k)
    show own_Go p e below PO (T5.setTop (mkF m 30 #[.val (.int pA), .val (.int pB), .val (.int pC), .val (.int pD), .val (.int pE), .val (.int (1 : Int32)), .val (.int v6_3), .val (.ref b4), .val (.ref b5), .unset, .unset, .unset, .unset] [(.ref b4)]))
    refine own_back ?_ (fun t k => XS.iconst X5.here hx rfl (hb hby at_30) k)
    show own_Go p e below PO (T5.setTop (mkF m 31 #[.val (.int pA), .val (.int pB), .val (.int pC), .val (.int pD), .val (.int pE), .val (.int (1 : Int32)), .val (.int v6_3), .val (.ref b4), .val (.ref b5), .unset, .unset, .unset, .unset] [(.int (0 : Int32)), (.ref b4)]))
    refine own_back ?_ (fun t k => XS.iloadN X5.here hx rfl (hb hby at_31) rfl k)
    show own_Go p e below PO (T5.setTop (mkF m 32 #[.val (.int pA), .val (.int pB), .val (.int pC), .val (.int pD), .val (.int pE), .val (.int (1 : Int32)), .val (.int v6_3), .val (.ref b4), .val (.ref b5), .unset, .unset, .unset, .unset] [(.int pA), (.int (0 : Int32)), (.ref b4)]))
    obtain ⟨T8, h8, X8, e8, W8, V8, st8⟩ := own_stI X5 hx hZ e5 f5_7 (j := (0 : Int32)) ⟨by decide, by decide⟩ (i := 0) rfl (by show 0 < 1; decide) (g := (mkF m 32 #[.val (.int pA), .val (.int pB), .val (.int pC), .val (.int pD), .val (.int pE), .val (.int (1 : Int32)), .val (.int v6_3), .val (.ref b4), .val (.ref b5), .unset, .unset, .unset, .unset] [(.int pA), (.int (0 : Int32)), (.ref b4)])) rfl rfl (hb hby at_32)
    replace V8 : Arv Z h8 b4 k4 .int (1 : Int32) [(.int pA)] (.int (0 : Int32)) := V8
    have f8_9 := f5_6.wr W8
    have f8_10 := Ex5.wr W8
    have f8_11 := V5.other W8 (Ne.symm ne_b4_b5)
    have K8 : Keep h0 h8 [] := (K5).wr W8 (Or.inr sz_b4)
    have N8 := Fr.snoc X8 N0 gn_b4
    have Zh8 : n0 ≤ h8.size := Nat.le_trans Z0 K8.1
    refine own_back ?_ st8
    show own_Go p e below PO (T8.setTop (mkF m 33 #[.val (.int pA), .val (.int pB), .val (.int pC), .val (.int pD), .val (.int pE), .val (.int (1 : Int32)), .val (.int v6_3), .val (.ref b4), .val (.ref b5), .unset, .unset, .unset, .unset] []))
    refine own_back ?_ (fun t k => XS.aload X8.here hx rfl (hb hby at_33) rfl rfl k)
    show own_Go p e below PO (T8.setTop (mkF m 35 #[.val (.int pA), .val (.int pB), .val (.int pC), .val (.int pD), .val (.int pE), .val (.int (1 : Int32)), .val (.int v6_3), .val (.ref b4), .val (.ref b5), .unset, .unset, .unset, .unset] [(.ref b5)]))
    refine own_back ?_ (fun t k => XS.iconst X8.here hx rfl (hb hby at_35) k)
    show own_Go p e below PO (T8.setTop (mkF m 36 #[.val (.int pA), .val (.int pB), .val (.int pC), .val (.int pD), .val (.int pE), .val (.int (1 : Int32)), .val (.int v6_3), .val (.ref b4), .val (.ref b5), .unset, .unset, .unset, .unset] [(.int (0 : Int32)), (.ref b5)]))
    refine own_back ?_ (fun t k => XS.iconst X8.here hx rfl (hb hby at_36) k)
    show own_Go p e below PO (T8.setTop (mkF m 37 #[.val (.int pA), .val (.int pB), .val (.int pC), .val (.int pD), .val (.int pE), .val (.int (1 : Int32)), .val (.int v6_3), .val (.ref b4), .val (.ref b5), .unset, .unset, .unset, .unset] [(.int (1 : Int32)), (.int (0 : Int32)), (.ref b5)]))
    obtain ⟨T12, h12, X12, e12, W12, V12, st12⟩ := own_stI X8 hx hZ e8 f8_11 (j := (0 : Int32)) ⟨by decide, by decide⟩ (i := 0) rfl (by show 0 < 1; decide) (g := (mkF m 37 #[.val (.int pA), .val (.int pB), .val (.int pC), .val (.int pD), .val (.int pE), .val (.int (1 : Int32)), .val (.int v6_3), .val (.ref b4), .val (.ref b5), .unset, .unset, .unset, .unset] [(.int (1 : Int32)), (.int (0 : Int32)), (.ref b5)])) rfl rfl (hb hby at_37)
    replace V12 : Arv Z h12 b5 k5 .int (1 : Int32) [(.int (1 : Int32))] (.int (0 : Int32)) := V12
    have f12_13 := f8_9.wr W12
    have f12_14 := V8.other W12 ne_b4_b5
    have f12_15 := f8_10.wr W12
    have K12 : Keep h0 h12 [] := (K8).wr W12 (Or.inr sz_b5)
    have N12 := Fr.snoc X12 N8 gn_b5
    have Zh12 : n0 ≤ h12.size := Nat.le_trans Z0 K12.1
    refine own_back ?_ st12
    show own_Go p e below PO (T12.setTop (mkF m 38 #[.val (.int pA), .val (.int pB), .val (.int pC), .val (.int pD), .val (.int pE), .val (.int (1 : Int32)), .val (.int v6_3), .val (.ref b4), .val (.ref b5), .unset, .unset, .unset, .unset] []))
    refine own_back ?_ (fun t k => XS.iload X12.here hx rfl (hb hby at_38) rfl k)
    show own_Go p e below PO (T12.setTop (mkF m 40 #[.val (.int pA), .val (.int pB), .val (.int pC), .val (.int pD), .val (.int pE), .val (.int (1 : Int32)), .val (.int v6_3), .val (.ref b4), .val (.ref b5), .unset, .unset, .unset, .unset] [(.int (1 : Int32))]))
    refine own_back ?_ (fun t k => XS.iconst X12.here hx rfl (hb hby at_40) k)
    show own_Go p e below PO (T12.setTop (mkF m 41 #[.val (.int pA), .val (.int pB), .val (.int pC), .val (.int pD), .val (.int pE), .val (.int (1 : Int32)), .val (.int v6_3), .val (.ref b4), .val (.ref b5), .unset, .unset, .unset, .unset] [(.int (2 : Int32)), (.int (1 : Int32))]))
    have hd41_16 : (1 : Int32) < (2 : Int32) := (by decide)
    refine own_back ?_ (fun t k => XS.icmpYes X12.here hx rfl (pc0 := 41) (pc' := 54) rfl (hb hby at_41) rfl (tlt hd41_16).1 (by decide) (by decide) k)
    show own_Go p e below PO (T12.setTop (mkF m 54 #[.val (.int pA), .val (.int pB), .val (.int pC), .val (.int pD), .val (.int pE), .val (.int (1 : Int32)), .val (.int v6_3), .val (.ref b4), .val (.ref b5), .unset, .unset, .unset, .unset] []))
    refine own_back ?_ (fun t k => XS.iload X12.here hx rfl (hb hby at_54) rfl k)
    show own_Go p e below PO (T12.setTop (mkF m 56 #[.val (.int pA), .val (.int pB), .val (.int pC), .val (.int pD), .val (.int pE), .val (.int (1 : Int32)), .val (.int v6_3), .val (.ref b4), .val (.ref b5), .unset, .unset, .unset, .unset] [(.int (1 : Int32))]))
    refine own_back ?_ (fun t k => XS.iconst X12.here hx rfl (hb hby at_56) k)
    show own_Go p e below PO (T12.setTop (mkF m 57 #[.val (.int pA), .val (.int pB), .val (.int pC), .val (.int pD), .val (.int pE), .val (.int (1 : Int32)), .val (.int v6_3), .val (.ref b4), .val (.ref b5), .unset, .unset, .unset, .unset] [(.int (3 : Int32)), (.int (1 : Int32))]))
    have hd57_17 : (1 : Int32) < (3 : Int32) := (by decide)
    refine own_back ?_ (fun t k => XS.icmpYes X12.here hx rfl (pc0 := 57) (pc' := 70) rfl (hb hby at_57) rfl (tlt hd57_17).1 (by decide) (by decide) k)
    show own_Go p e below PO (T12.setTop (mkF m 70 #[.val (.int pA), .val (.int pB), .val (.int pC), .val (.int pD), .val (.int pE), .val (.int (1 : Int32)), .val (.int v6_3), .val (.ref b4), .val (.ref b5), .unset, .unset, .unset, .unset] []))
    refine own_back ?_ (fun t k => XS.iconst X12.here hx rfl (hb hby at_70) k)
    show own_Go p e below PO (T12.setTop (mkF m 71 #[.val (.int pA), .val (.int pB), .val (.int pC), .val (.int pD), .val (.int pE), .val (.int (1 : Int32)), .val (.int v6_3), .val (.ref b4), .val (.ref b5), .unset, .unset, .unset, .unset] [(.int (1 : Int32))]))
    obtain ⟨T18, h18, k18, X18, e18, E18, A18, Ex18, st18⟩ := newPE X12 hx hZ (hw _ (List.mem_of_getElem? (i := 1) rfl)) e12 (g := (mkF m 71 #[.val (.int pA), .val (.int pB), .val (.int pC), .val (.int pD), .val (.int pE), .val (.int (1 : Int32)), .val (.int v6_3), .val (.ref b4), .val (.ref b5), .unset, .unset, .unset, .unset] [(.int (1 : Int32))])) rfl (hb hby at_71) rfl (by decide) (cap := 1) (by decide) (by decide) (by decide) (by decide) (ad := "[D") (by decide)
    obtain ⟨b18, g18⟩ : ∃ z, z = h12.size := ⟨_, rfl⟩
    rw [← g18] at A18 Ex18 st18
    have ne_b4_b18 : b4 ≠ b18 := Nat.ne_of_lt (Nat.lt_of_lt_of_le f12_13.lt (Nat.le_of_eq g18.symm))
    have ne_b5_b18 : b5 ≠ b18 := Nat.ne_of_lt (Nat.lt_of_lt_of_le f12_15.lt (Nat.le_of_eq g18.symm))
    have sz_b18 : h0.size ≤ b18 := Nat.le_trans K12.1 (Nat.le_of_eq g18.symm)
    have gn_b18 : n0 ≤ b18 := Nat.le_trans Z0 sz_b18
    have f18_19 := f12_13.ext E18
    have f18_20 := f12_14.ext E18
    have f18_21 := f12_15.ext E18
    have f18_22 := V12.ext E18
    have K18 : Keep h0 h18 [] := (K12).ext E18
    have Zh18 : n0 ≤ h18.size := Nat.le_trans Z0 K18.1
    have V18 : Arv Z h18 b18 k18 .double (1 : Int32) [(.double (0 : UInt64))] (.double (0 : UInt64)) := (Arv.new A18 (by decide)).pad (pad_rep [] (.double (0 : UInt64)) 1)
    refine own_back ?_ st18
    show own_Go p e below PO (T18.setTop (mkF m 73 #[.val (.int pA), .val (.int pB), .val (.int pC), .val (.int pD), .val (.int pE), .val (.int (1 : Int32)), .val (.int v6_3), .val (.ref b4), .val (.ref b5), .unset, .unset, .unset, .unset] [(.ref b18)]))
    refine own_back ?_ (fun t k => XS.astore X18.here hx rfl (hb hby at_73) rfl rfl (l' := #[.val (.int pA), .val (.int pB), .val (.int pC), .val (.int pD), .val (.int pE), .val (.int (1 : Int32)), .val (.int v6_3), .val (.ref b4), .val (.ref b5), .val (.ref b18), .unset, .unset, .unset]) rfl k)
    show own_Go p e below PO (T18.setTop (mkF m 75 #[.val (.int pA), .val (.int pB), .val (.int pC), .val (.int pD), .val (.int pE), .val (.int (1 : Int32)), .val (.int v6_3), .val (.ref b4), .val (.ref b5), .val (.ref b18), .unset, .unset, .unset] []))
    refine own_back ?_ (fun t k => XS.aload X18.here hx rfl (hb hby at_75) rfl rfl k)
    show own_Go p e below PO (T18.setTop (mkF m 77 #[.val (.int pA), .val (.int pB), .val (.int pC), .val (.int pD), .val (.int pE), .val (.int (1 : Int32)), .val (.int v6_3), .val (.ref b4), .val (.ref b5), .val (.ref b18), .unset, .unset, .unset] [(.ref b18)]))
    refine own_back ?_ (fun t k => XS.iconst X18.here hx rfl (hb hby at_77) k)
    show own_Go p e below PO (T18.setTop (mkF m 78 #[.val (.int pA), .val (.int pB), .val (.int pC), .val (.int pD), .val (.int pE), .val (.int (1 : Int32)), .val (.int v6_3), .val (.ref b4), .val (.ref b5), .val (.ref b18), .unset, .unset, .unset] [(.int (0 : Int32)), (.ref b18)]))
    refine own_back ?_ (fun t k => XS.dconst0 X18.here hx rfl (v := (0 : UInt64)) (hb hby at_78) (by decide +kernel) k)
    show own_Go p e below PO (T18.setTop (mkF m 79 #[.val (.int pA), .val (.int pB), .val (.int pC), .val (.int pD), .val (.int pE), .val (.int (1 : Int32)), .val (.int v6_3), .val (.ref b4), .val (.ref b5), .val (.ref b18), .unset, .unset, .unset] [(.double (0 : UInt64)), (.int (0 : Int32)), (.ref b18)]))
    obtain ⟨T23, h23, X23, e23, W23, V23, st23⟩ := own_stD X18 hx hZ e18 V18 (j := (0 : Int32)) ⟨by decide, by decide⟩ (i := 0) rfl (by show 0 < 1; decide) (g := (mkF m 79 #[.val (.int pA), .val (.int pB), .val (.int pC), .val (.int pD), .val (.int pE), .val (.int (1 : Int32)), .val (.int v6_3), .val (.ref b4), .val (.ref b5), .val (.ref b18), .unset, .unset, .unset] [(.double (0 : UInt64)), (.int (0 : Int32)), (.ref b18)])) rfl rfl (hb hby at_79)
    replace V23 : Arv Z h23 b18 k18 .double (1 : Int32) [(.double (0 : UInt64))] (.double (0 : UInt64)) := V23
    have f23_24 := f18_19.wr W23
    have f23_25 := f18_20.other W23 ne_b4_b18
    have f23_26 := f18_21.wr W23
    have f23_27 := f18_22.other W23 ne_b5_b18
    have f23_28 := Ex18.wr W23
    have K23 : Keep h0 h23 [] := (K18).wr W23 (Or.inr sz_b18)
    have N23 := Fr.snoc X23 N12 gn_b18
    have Zh23 : n0 ≤ h23.size := Nat.le_trans Z0 K23.1
    refine own_back ?_ st23
    show own_Go p e below PO (T23.setTop (mkF m 80 #[.val (.int pA), .val (.int pB), .val (.int pC), .val (.int pD), .val (.int pE), .val (.int (1 : Int32)), .val (.int v6_3), .val (.ref b4), .val (.ref b5), .val (.ref b18), .unset, .unset, .unset] []))
    obtain ⟨T29, h29, X29, e29, E29, A29, D29, -, st29⟩ := newO X23 hx hZ hown (hw _ (List.mem_of_getElem? (i := 2) rfl)) (hw _ (List.mem_of_getElem? (i := 3) rfl)) (hw _ (List.mem_of_getElem? (i := 4) rfl)) e23 (g := (mkF m 80 #[.val (.int pA), .val (.int pB), .val (.int pC), .val (.int pD), .val (.int pE), .val (.int (1 : Int32)), .val (.int v6_3), .val (.ref b4), .val (.ref b5), .val (.ref b18), .unset, .unset, .unset] [])) rfl (hb hby at_80) (by decide) (by decide)
    obtain ⟨b29, g29⟩ : ∃ z, z = h23.size := ⟨_, rfl⟩
    rw [← g29] at A29 D29 st29
    have ne_b18_b29 : b18 ≠ b29 := Nat.ne_of_lt (Nat.lt_of_lt_of_le f23_28.lt (Nat.le_of_eq g29.symm))
    have ne_b4_b29 : b4 ≠ b29 := Nat.ne_of_lt (Nat.lt_of_lt_of_le f23_24.lt (Nat.le_of_eq g29.symm))
    have ne_b5_b29 : b5 ≠ b29 := Nat.ne_of_lt (Nat.lt_of_lt_of_le f23_26.lt (Nat.le_of_eq g29.symm))
    have sz_b29 : h0.size ≤ b29 := Nat.le_trans K23.1 (Nat.le_of_eq g29.symm)
    have gn_b29 : n0 ≤ b29 := Nat.le_trans Z0 sz_b29
    have f29_30 := f23_24.ext E29
    have f29_31 := f23_25.ext E29
    have f29_32 := f23_26.ext E29
    have f29_33 := f23_27.ext E29
    have f29_34 := f23_28.ext E29
    have f29_35 := V23.ext E29
    have K29 : Keep h0 h29 [] := (K23).ext E29
    have Zh29 : n0 ≤ h29.size := Nat.le_trans Z0 K29.1
    have F29_scope : Fld Z h29 b29 "com/example/nearbound/nearbound/dcop/Constraint" "scope" "[I" .null := D29 (Or.inr (hw _ (List.mem_of_getElem? (i := 21) rfl))) (ty := (.array .int)) (by decide)
    have F29_sizes : Fld Z h29 b29 "com/example/nearbound/nearbound/dcop/Constraint" "sizes" "[I" .null := D29 (Or.inr (hw _ (List.mem_of_getElem? (i := 23) rfl))) (ty := (.array .int)) (by decide)
    have F29_strides : Fld Z h29 b29 "com/example/nearbound/nearbound/dcop/Constraint" "strides" "[I" .null := D29 (Or.inr (hw _ (List.mem_of_getElem? (i := 25) rfl))) (ty := (.array .int)) (by decide)
    have F29_rewards : Fld Z h29 b29 "com/example/nearbound/nearbound/dcop/Constraint" "rewards" "[D" .null := D29 (Or.inr (hw _ (List.mem_of_getElem? (i := 48) rfl))) (ty := (.array .double)) (by decide)
    have F29_costs : Fld Z h29 b29 "com/example/nearbound/nearbound/dcop/Constraint" "costs" "[D" .null := D29 (Or.inr (hw _ (List.mem_of_getElem? (i := 50) rfl))) (ty := (.array .double)) (by decide)
    refine own_back ?_ st29
    show own_Go p e below PO (T29.setTop (mkF m 83 #[.val (.int pA), .val (.int pB), .val (.int pC), .val (.int pD), .val (.int pE), .val (.int (1 : Int32)), .val (.int v6_3), .val (.ref b4), .val (.ref b5), .val (.ref b18), .unset, .unset, .unset] [(.ref b29)]))
    refine own_back ?_ (fun t k => XS.dup X29.here hx rfl (hb hby at_83) rfl rfl k)
    show own_Go p e below PO (T29.setTop (mkF m 84 #[.val (.int pA), .val (.int pB), .val (.int pC), .val (.int pD), .val (.int pE), .val (.int (1 : Int32)), .val (.int v6_3), .val (.ref b4), .val (.ref b5), .val (.ref b18), .unset, .unset, .unset] [(.ref b29), (.ref b29)]))
    refine own_back ?_ (fun t k => XS.aload X29.here hx rfl (hb hby at_84) rfl rfl k)
    show own_Go p e below PO (T29.setTop (mkF m 86 #[.val (.int pA), .val (.int pB), .val (.int pC), .val (.int pD), .val (.int pE), .val (.int (1 : Int32)), .val (.int v6_3), .val (.ref b4), .val (.ref b5), .val (.ref b18), .unset, .unset, .unset] [(.ref b4), (.ref b29), (.ref b29)]))
    refine own_back ?_ (fun t k => XS.aload X29.here hx rfl (hb hby at_86) rfl rfl k)
    show own_Go p e below PO (T29.setTop (mkF m 88 #[.val (.int pA), .val (.int pB), .val (.int pC), .val (.int pD), .val (.int pE), .val (.int (1 : Int32)), .val (.int v6_3), .val (.ref b4), .val (.ref b5), .val (.ref b18), .unset, .unset, .unset] [(.ref b5), (.ref b4), (.ref b29), (.ref b29)]))
    refine own_back ?_ (fun t k => XS.aload X29.here hx rfl (hb hby at_88) rfl rfl k)
    show own_Go p e below PO (T29.setTop (mkF m 90 #[.val (.int pA), .val (.int pB), .val (.int pC), .val (.int pD), .val (.int pE), .val (.int (1 : Int32)), .val (.int v6_3), .val (.ref b4), .val (.ref b5), .val (.ref b18), .unset, .unset, .unset] [(.ref b18), (.ref b5), (.ref b4), (.ref b29), (.ref b29)]))
    refine own_back ?_ (fun t k => XS.aconstNull X29.here hx rfl (hb hby at_90) k)
    show own_Go p e below PO (T29.setTop (mkF m 91 #[.val (.int pA), .val (.int pB), .val (.int pC), .val (.int pD), .val (.int pE), .val (.int (1 : Int32)), .val (.int v6_3), .val (.ref b4), .val (.ref b5), .val (.ref b18), .unset, .unset, .unset] [.null, (.ref b18), (.ref b5), (.ref b4), (.ref b29), (.ref b29)]))
    obtain ⟨_, _, ⟨T36, L36, k36, n36⟩, -, X36, hSn36, hgr36, ⟨Lc36, hQ36, l36, y36, z36⟩, st36⟩ := X29.specialBackS hx (y := (⟨"com/example/nearbound/nearbound/dcop/Constraint", "<init>", "([I[I[D[D)V"⟩ : MethodName)) rfl hown (mvT hZ (hw _ (List.mem_of_getElem? (i := 5) rfl))) (mvT hZ (hw _ (List.mem_of_getElem? (i := 6) rfl))) (mvT hZ (hw _ (List.mem_of_getElem? (i := 7) rfl))) (by decide) (backOfS (W := 1) (rmI_1 l Z a0 hw [] b29 b4 b5 b18 k4 k5 k18 pA (0 : UInt64) h29 n0 Zh29 A29 F29_scope F29_sizes F29_strides F29_rewards F29_costs f29_30 f29_31 f29_32 f29_33 f29_34 f29_35 ne_b4_b29 ne_b5_b29 ne_b18_b29 gn_b29) hZ (hw _ (List.mem_of_getElem? (i := 7) rfl)) (hw _ (List.mem_of_getElem? (i := 4) rfl)) (by decide) (by decide)) (g := (mkF m 91 #[.val (.int pA), .val (.int pB), .val (.int pC), .val (.int pD), .val (.int pE), .val (.int (1 : Int32)), .val (.int v6_3), .val (.ref b4), .val (.ref b5), .val (.ref b18), .unset, .unset, .unset] [.null, (.ref b18), (.ref b5), (.ref b4), (.ref b29), (.ref b29)])) rfl (by rw [hml]; rfl) (Steps.refl _) (a := b29) (argsL := [(.ref b4), (.ref b5), (.ref b18), .null]) (rest := [(.ref b29)]) (lenOf pd_2 rfl) rfl (by show 2 * 0 + _ ≤ _; exact Nat.le_of_eq rfl) (hb hby at_91) (fun _ _ => ⟨rfl, e29, (by decide : 4 + 6 ≤ _), (by decide : 8 + 36 ≤ _)⟩)
    dsimp only [Pt.U, Pt.locs, Pt.cells, Pt.slots] at X36 l36 y36 z36 st36 hQ36
    subst l36 y36 z36
    replace X36 : Stand p l e room_1 (s.setVm T36.vm) m #[(.int pA), (.int pB), (.int pC), (.int pD), (.int pE)] below meth c T36 _ _ _ := X36
    have hS36 : s.Since T36.vm T36.heap.size := foldS (s := s) (vm0 := s.vm) (T := T29) hS0 (by rw [e29]; exact (Nat.zero_le _)) hSn36 hgr36
    have hZ : Z.Warmed39 (s.setVm T36.vm).vm := State.Warmed39.trans (t := s.setVm s.vm) hZ hSn36.1
    have hown : (s.setVm T36.vm).vm.findClass "com/example/nearbound/nearbound/dcop/ConstraintHoldsPinLaw" = some m.cls := by rw [show (s.setVm T36.vm).vm = T36.vm from rfl, hSn36.1.alike.findClass]; exact hown
    obtain ⟨rfl, N36q, Kc36, aN, szN, FS, VN⟩ := hQ36
    have N36 := Fr.app N23 N36q
    have ne_b18_aN : b18 ≠ aN := Nat.ne_of_lt (Nat.lt_of_lt_of_le f29_34.lt szN)
    have ne_b29_aN : b29 ≠ aN := Nat.ne_of_lt (Nat.lt_of_lt_of_le A29.lt szN)
    have ne_b4_aN : b4 ≠ aN := Nat.ne_of_lt (Nat.lt_of_lt_of_le f29_30.lt szN)
    have ne_b5_aN : b5 ≠ aN := Nat.ne_of_lt (Nat.lt_of_lt_of_le f29_32.lt szN)
    have sz_aN : h0.size ≤ aN := Nat.le_trans K29.1 szN
    have gn_aN : n0 ≤ aN := Nat.le_trans Z0 sz_aN
    have f36_37 := f29_30.keep Kc36
    have f36_38 := f29_31.keep Kc36 (ninS ne_b4_b29 nin0)
    have f36_39 := f29_32.keep Kc36
    have f36_40 := f29_33.keep Kc36 (ninS ne_b5_b29 nin0)
    have f36_41 := f29_34.keep Kc36
    have f36_42 := f29_35.keep Kc36 (ninS ne_b18_b29 nin0)
    have f36_43 := A29.keep Kc36
    have K36 : Keep h0 T36.heap [] := (K29).trans Kc36 (allS (Or.inr sz_b29) all0)
    have Zh36 : n0 ≤ T36.heap.size := Nat.le_trans Z0 K36.1
    refine own_back ?_ (fun t k => st36.trans k)
    show own_Go p e below PO (T36.setTop (mkF m 94 #[.val (.int pA), .val (.int pB), .val (.int pC), .val (.int pD), .val (.int pE), .val (.int (1 : Int32)), .val (.int v6_3), .val (.ref b4), .val (.ref b5), .val (.ref b18), .unset, .unset, .unset] [(.ref b29)]))
    refine own_back ?_ (fun t k => XS.astore X36.here hx rfl (hb hby at_94) rfl rfl (l' := #[.val (.int pA), .val (.int pB), .val (.int pC), .val (.int pD), .val (.int pE), .val (.int (1 : Int32)), .val (.int v6_3), .val (.ref b4), .val (.ref b5), .val (.ref b18), .val (.ref b29), .unset, .unset]) rfl k)
    show own_Go p e below PO (T36.setTop (mkF m 96 #[.val (.int pA), .val (.int pB), .val (.int pC), .val (.int pD), .val (.int pE), .val (.int (1 : Int32)), .val (.int v6_3), .val (.ref b4), .val (.ref b5), .val (.ref b18), .val (.ref b29), .unset, .unset] []))
    refine own_back ?_ (fun t k => XS.iload X36.here hx rfl (hb hby at_96) rfl k)
    show own_Go p e below PO (T36.setTop (mkF m 98 #[.val (.int pA), .val (.int pB), .val (.int pC), .val (.int pD), .val (.int pE), .val (.int (1 : Int32)), .val (.int v6_3), .val (.ref b4), .val (.ref b5), .val (.ref b18), .val (.ref b29), .unset, .unset] [(.int v6_3)]))
    have J45 : ∀ (x45 : Int32), own_Go p e below PO (T36.setTop (mkF m 134 #[.val (.int pA), .val (.int pB), .val (.int pC), .val (.int pD), .val (.int pE), .val (.int (1 : Int32)), .val (.int v6_3), .val (.ref b4), .val (.ref b5), .val (.ref b18), .val (.ref b29), .val (.int x45), .unset] [])) := by
      intro x45
      refine own_back ?_ (fun t k => XS.iload X36.here hx rfl (hb hby at_134) rfl k)
      show own_Go p e below PO (T36.setTop (mkF m 136 #[.val (.int pA), .val (.int pB), .val (.int pC), .val (.int pD), .val (.int pE), .val (.int (1 : Int32)), .val (.int v6_3), .val (.ref b4), .val (.ref b5), .val (.ref b18), .val (.ref b29), .val (.int x45), .unset] [(.int x45)]))
      refine own_back ?_ (fun t k => XS.iloadN X36.here hx rfl (hb hby at_136) rfl k)
      show own_Go p e below PO (T36.setTop (mkF m 137 #[.val (.int pA), .val (.int pB), .val (.int pC), .val (.int pD), .val (.int pE), .val (.int (1 : Int32)), .val (.int v6_3), .val (.ref b4), .val (.ref b5), .val (.ref b18), .val (.ref b29), .val (.int x45), .unset] [(.int pA), (.int x45)]))
      by_cases hc137_46 : x45 = pA
      case pos =>
        refine own_back ?_ (fun t k => XS.icmpYes X36.here hx rfl (pc0 := 137) (pc' := 164) rfl (hb hby at_137) rfl (teq hc137_46).1 (by decide) (by decide) k)
        show own_Go p e below PO (T36.setTop (mkF m 164 #[.val (.int pA), .val (.int pB), .val (.int pC), .val (.int pD), .val (.int pE), .val (.int (1 : Int32)), .val (.int v6_3), .val (.ref b4), .val (.ref b5), .val (.ref b18), .val (.ref b29), .val (.int x45), .unset] []))
        refine own_back ?_ (fun t k => XS.iconst X36.here hx rfl (hb hby at_164) k)
        show own_Go p e below PO (T36.setTop (mkF m 165 #[.val (.int pA), .val (.int pB), .val (.int pC), .val (.int pD), .val (.int pE), .val (.int (1 : Int32)), .val (.int v6_3), .val (.ref b4), .val (.ref b5), .val (.ref b18), .val (.ref b29), .val (.int x45), .unset] [(.int (1 : Int32))]))
        refine own_back ?_ (fun t k => XS.goto X36.here hx rfl (pc0 := 165) (pc' := 169) rfl (hb hby at_165) (by decide) (by decide) k)
        show own_Go p e below PO (T36.setTop (mkF m 169 #[.val (.int pA), .val (.int pB), .val (.int pC), .val (.int pD), .val (.int pE), .val (.int (1 : Int32)), .val (.int v6_3), .val (.ref b4), .val (.ref b5), .val (.ref b18), .val (.ref b29), .val (.int x45), .unset] [(.int (1 : Int32))]))
        refine own_back ?_ (fun t k => XS.istore X36.here hx rfl (hb hby at_169) rfl (l' := #[.val (.int pA), .val (.int pB), .val (.int pC), .val (.int pD), .val (.int pE), .val (.int (1 : Int32)), .val (.int v6_3), .val (.ref b4), .val (.ref b5), .val (.ref b18), .val (.ref b29), .val (.int x45), .val (.int (1 : Int32))]) rfl k)
        show own_Go p e below PO (T36.setTop (mkF m 171 #[.val (.int pA), .val (.int pB), .val (.int pC), .val (.int pD), .val (.int pE), .val (.int (1 : Int32)), .val (.int v6_3), .val (.ref b4), .val (.ref b5), .val (.ref b18), .val (.ref b29), .val (.int x45), .val (.int (1 : Int32))] []))
        refine own_back ?_ (fun t k => XS.aload X36.here hx rfl (hb hby at_171) rfl rfl k)
        show own_Go p e below PO (T36.setTop (mkF m 173 #[.val (.int pA), .val (.int pB), .val (.int pC), .val (.int pD), .val (.int pE), .val (.int (1 : Int32)), .val (.int v6_3), .val (.ref b4), .val (.ref b5), .val (.ref b18), .val (.ref b29), .val (.int x45), .val (.int (1 : Int32))] [(.ref b29)]))
        refine own_back ?_ (fun t k => XS.iload X36.here hx rfl (hb hby at_173) rfl k)
        show own_Go p e below PO (T36.setTop (mkF m 175 #[.val (.int pA), .val (.int pB), .val (.int pC), .val (.int pD), .val (.int pE), .val (.int (1 : Int32)), .val (.int v6_3), .val (.ref b4), .val (.ref b5), .val (.ref b18), .val (.ref b29), .val (.int x45), .val (.int (1 : Int32))] [(.int x45), (.ref b29)]))
        obtain ⟨cq47, kq47, q47a, q47b, q47c⟩ := isOf hZ rfl f36_43
        obtain ⟨_, _, ⟨T47, L47, k47, n47⟩, -, X47, ⟨Lc47, hQ47, l47, y47, z47⟩, st47⟩ := X36.virtualBack hx (y := (⟨"com/example/nearbound/nearbound/dcop/Constraint", "holds", "(I)Z"⟩ : MethodName)) (z := (⟨"com/example/nearbound/nearbound/dcop/Constraint", "holds", "(I)Z"⟩ : MethodName)) hown (mvT hZ (hw _ (List.mem_of_getElem? (i := 51) rfl))) (mvT hZ (hw _ (List.mem_of_getElem? (i := 52) rfl))) (notFace_of_selects (args := #[]) (mvT hZ (hw _ (List.mem_of_getElem? (i := 54) rfl)))) (mvT hZ (hw _ (List.mem_of_getElem? (i := 54) rfl))) (mvT hZ (hw _ (List.mem_of_getElem? (i := 53) rfl))) (by decide) (backOf (W := 0) (rmH_1 l Z a0 hw [] b29 x45 aN k4 pA T36.heap n0 Zh36 FS VN) hZ (hw _ (List.mem_of_getElem? (i := 55) rfl)) (hw _ (List.mem_of_getElem? (i := 4) rfl)) (by decide) (by decide)) q47a q47c (g := (mkF m 175 #[.val (.int pA), .val (.int pB), .val (.int pC), .val (.int pD), .val (.int pE), .val (.int (1 : Int32)), .val (.int v6_3), .val (.ref b4), .val (.ref b5), .val (.ref b18), .val (.ref b29), .val (.int x45), .val (.int (1 : Int32))] [(.int x45), (.ref b29)])) rfl (by rw [hml]; rfl) (Steps.refl _) (argsL := [(.int x45)]) (rest := []) (lenOf pd_3 rfl) rfl (by show 2 * 0 + _ ≤ _; exact Nat.le_of_eq rfl) (hb hby at_175) (fun _ _ => ⟨rfl, rfl, (by decide : 10 + 0 ≤ _), (by decide : 44 + 0 ≤ _)⟩)
        dsimp only [Pt.U, Pt.locs, Pt.cells, Pt.slots] at X47 l47 y47 z47 st47 hQ47
        subst l47 y47 z47
        obtain ⟨rfl, N47q, e47⟩ := hQ47
        have N47 := Fr.app N36 N47q
        refine own_back ?_ (fun t k => st47.trans k)
        show own_Go p e below PO (T47.setTop (mkF m 178 #[.val (.int pA), .val (.int pB), .val (.int pC), .val (.int pD), .val (.int pE), .val (.int (1 : Int32)), .val (.int v6_3), .val (.ref b4), .val (.ref b5), .val (.ref b18), .val (.ref b29), .val (.int x45), .val (.int (1 : Int32))] [(.int (own_h1 pA x45))]))
        refine own_gen (A := Int32) (own_h1 pA x45) (fun r175_48 => own_Go p e below PO (T47.setTop (mkF m 178 #[.val (.int pA), .val (.int pB), .val (.int pC), .val (.int pD), .val (.int pE), .val (.int (1 : Int32)), .val (.int v6_3), .val (.ref b4), .val (.ref b5), .val (.ref b18), .val (.ref b29), .val (.int x45), .val (.int (1 : Int32))] [(.int r175_48)]))) ?_
        intro r175_48 h_r175_48
        show own_Go p e below PO (T47.setTop (mkF m 178 #[.val (.int pA), .val (.int pB), .val (.int pC), .val (.int pD), .val (.int pE), .val (.int (1 : Int32)), .val (.int v6_3), .val (.ref b4), .val (.ref b5), .val (.ref b18), .val (.ref b29), .val (.int x45), .val (.int (1 : Int32))] [(.int r175_48)]))
        refine own_back ?_ (fun t k => XS.iload X47.here hx rfl (hb hby at_178) rfl k)
        show own_Go p e below PO (T47.setTop (mkF m 180 #[.val (.int pA), .val (.int pB), .val (.int pC), .val (.int pD), .val (.int pE), .val (.int (1 : Int32)), .val (.int v6_3), .val (.ref b4), .val (.ref b5), .val (.ref b18), .val (.ref b29), .val (.int x45), .val (.int (1 : Int32))] [(.int (1 : Int32)), (.int r175_48)]))
        have hd180_49 : r175_48 = (1 : Int32) := by rw [h_r175_48, hc137_46]; simp [own_h1, own_h2, own_h3]
        refine own_back ?_ (fun t k => XS.icmpNo X47.here hx rfl (hb hby at_180) rfl (teq hd180_49).2 k)
        show own_Go p e below PO (T47.setTop (mkF m 183 #[.val (.int pA), .val (.int pB), .val (.int pC), .val (.int pD), .val (.int pE), .val (.int (1 : Int32)), .val (.int v6_3), .val (.ref b4), .val (.ref b5), .val (.ref b18), .val (.ref b29), .val (.int x45), .val (.int (1 : Int32))] []))
        refine own_back ?_ (fun t k => XS.iconst X47.here hx rfl (hb hby at_183) k)
        show own_Go p e below PO (T47.setTop (mkF m 184 #[.val (.int pA), .val (.int pB), .val (.int pC), .val (.int pD), .val (.int pE), .val (.int (1 : Int32)), .val (.int v6_3), .val (.ref b4), .val (.ref b5), .val (.ref b18), .val (.ref b29), .val (.int x45), .val (.int (1 : Int32))] [(.int (1 : Int32))]))
        refine own_back ?_ (fun t k => XS.goto X47.here hx rfl (pc0 := 184) (pc' := 188) rfl (hb hby at_184) (by decide) (by decide) k)
        show own_Go p e below PO (T47.setTop (mkF m 188 #[.val (.int pA), .val (.int pB), .val (.int pC), .val (.int pD), .val (.int pE), .val (.int (1 : Int32)), .val (.int v6_3), .val (.ref b4), .val (.ref b5), .val (.ref b18), .val (.ref b29), .val (.int x45), .val (.int (1 : Int32))] [(.int (1 : Int32))]))
        refine own_retNW X47 hx (t := .boolean) (rest := []) Bd.returns (by decide) (by simp) (hb hby at_188) e47 (Bd.notSynchronized) ?_ (by decide) (by decide) (s := s) (vm0 := T36.vm) hS36 (Nat.le_refl _)
        exact ⟨rfl, N47⟩
      refine own_back ?_ (fun t k => XS.icmpNo X36.here hx rfl (hb hby at_137) rfl (feq hc137_46).1 k)
      show own_Go p e below PO (T36.setTop (mkF m 140 #[.val (.int pA), .val (.int pB), .val (.int pC), .val (.int pD), .val (.int pE), .val (.int (1 : Int32)), .val (.int v6_3), .val (.ref b4), .val (.ref b5), .val (.ref b18), .val (.ref b29), .val (.int x45), .unset] []))
      refine own_back ?_ (fun t k => XS.iload X36.here hx rfl (hb hby at_140) rfl k)
      show own_Go p e below PO (T36.setTop (mkF m 142 #[.val (.int pA), .val (.int pB), .val (.int pC), .val (.int pD), .val (.int pE), .val (.int (1 : Int32)), .val (.int v6_3), .val (.ref b4), .val (.ref b5), .val (.ref b18), .val (.ref b29), .val (.int x45), .unset] [(.int (1 : Int32))]))
      refine own_back ?_ (fun t k => XS.iconst X36.here hx rfl (hb hby at_142) k)
      show own_Go p e below PO (T36.setTop (mkF m 143 #[.val (.int pA), .val (.int pB), .val (.int pC), .val (.int pD), .val (.int pE), .val (.int (1 : Int32)), .val (.int v6_3), .val (.ref b4), .val (.ref b5), .val (.ref b18), .val (.ref b29), .val (.int x45), .unset] [(.int (2 : Int32)), (.int (1 : Int32))]))
      have hd143_50 : (1 : Int32) < (2 : Int32) := (by decide)
      refine own_back ?_ (fun t k => XS.icmpYes X36.here hx rfl (pc0 := 143) (pc' := 152) rfl (hb hby at_143) rfl (tlt hd143_50).1 (by decide) (by decide) k)
      show own_Go p e below PO (T36.setTop (mkF m 152 #[.val (.int pA), .val (.int pB), .val (.int pC), .val (.int pD), .val (.int pE), .val (.int (1 : Int32)), .val (.int v6_3), .val (.ref b4), .val (.ref b5), .val (.ref b18), .val (.ref b29), .val (.int x45), .unset] []))
      refine own_back ?_ (fun t k => XS.iload X36.here hx rfl (hb hby at_152) rfl k)
      show own_Go p e below PO (T36.setTop (mkF m 154 #[.val (.int pA), .val (.int pB), .val (.int pC), .val (.int pD), .val (.int pE), .val (.int (1 : Int32)), .val (.int v6_3), .val (.ref b4), .val (.ref b5), .val (.ref b18), .val (.ref b29), .val (.int x45), .unset] [(.int (1 : Int32))]))
      refine own_back ?_ (fun t k => XS.iconst X36.here hx rfl (hb hby at_154) k)
      show own_Go p e below PO (T36.setTop (mkF m 155 #[.val (.int pA), .val (.int pB), .val (.int pC), .val (.int pD), .val (.int pE), .val (.int (1 : Int32)), .val (.int v6_3), .val (.ref b4), .val (.ref b5), .val (.ref b18), .val (.ref b29), .val (.int x45), .unset] [(.int (3 : Int32)), (.int (1 : Int32))]))
      have hd155_51 : (1 : Int32) < (3 : Int32) := (by decide)
      refine own_back ?_ (fun t k => XS.icmpYes X36.here hx rfl (pc0 := 155) (pc' := 168) rfl (hb hby at_155) rfl (tlt hd155_51).1 (by decide) (by decide) k)
      show own_Go p e below PO (T36.setTop (mkF m 168 #[.val (.int pA), .val (.int pB), .val (.int pC), .val (.int pD), .val (.int pE), .val (.int (1 : Int32)), .val (.int v6_3), .val (.ref b4), .val (.ref b5), .val (.ref b18), .val (.ref b29), .val (.int x45), .unset] []))
      refine own_back ?_ (fun t k => XS.iconst X36.here hx rfl (hb hby at_168) k)
      show own_Go p e below PO (T36.setTop (mkF m 169 #[.val (.int pA), .val (.int pB), .val (.int pC), .val (.int pD), .val (.int pE), .val (.int (1 : Int32)), .val (.int v6_3), .val (.ref b4), .val (.ref b5), .val (.ref b18), .val (.ref b29), .val (.int x45), .unset] [(.int (0 : Int32))]))
      refine own_back ?_ (fun t k => XS.istore X36.here hx rfl (hb hby at_169) rfl (l' := #[.val (.int pA), .val (.int pB), .val (.int pC), .val (.int pD), .val (.int pE), .val (.int (1 : Int32)), .val (.int v6_3), .val (.ref b4), .val (.ref b5), .val (.ref b18), .val (.ref b29), .val (.int x45), .val (.int (0 : Int32))]) rfl k)
      show own_Go p e below PO (T36.setTop (mkF m 171 #[.val (.int pA), .val (.int pB), .val (.int pC), .val (.int pD), .val (.int pE), .val (.int (1 : Int32)), .val (.int v6_3), .val (.ref b4), .val (.ref b5), .val (.ref b18), .val (.ref b29), .val (.int x45), .val (.int (0 : Int32))] []))
      refine own_back ?_ (fun t k => XS.aload X36.here hx rfl (hb hby at_171) rfl rfl k)
      show own_Go p e below PO (T36.setTop (mkF m 173 #[.val (.int pA), .val (.int pB), .val (.int pC), .val (.int pD), .val (.int pE), .val (.int (1 : Int32)), .val (.int v6_3), .val (.ref b4), .val (.ref b5), .val (.ref b18), .val (.ref b29), .val (.int x45), .val (.int (0 : Int32))] [(.ref b29)]))
      refine own_back ?_ (fun t k => XS.iload X36.here hx rfl (hb hby at_173) rfl k)
      show own_Go p e below PO (T36.setTop (mkF m 175 #[.val (.int pA), .val (.int pB), .val (.int pC), .val (.int pD), .val (.int pE), .val (.int (1 : Int32)), .val (.int v6_3), .val (.ref b4), .val (.ref b5), .val (.ref b18), .val (.ref b29), .val (.int x45), .val (.int (0 : Int32))] [(.int x45), (.ref b29)]))
      obtain ⟨cq52, kq52, q52a, q52b, q52c⟩ := isOf hZ rfl f36_43
      obtain ⟨_, _, ⟨T52, L52, k52, n52⟩, -, X52, ⟨Lc52, hQ52, l52, y52, z52⟩, st52⟩ := X36.virtualBack hx (y := (⟨"com/example/nearbound/nearbound/dcop/Constraint", "holds", "(I)Z"⟩ : MethodName)) (z := (⟨"com/example/nearbound/nearbound/dcop/Constraint", "holds", "(I)Z"⟩ : MethodName)) hown (mvT hZ (hw _ (List.mem_of_getElem? (i := 51) rfl))) (mvT hZ (hw _ (List.mem_of_getElem? (i := 52) rfl))) (notFace_of_selects (args := #[]) (mvT hZ (hw _ (List.mem_of_getElem? (i := 54) rfl)))) (mvT hZ (hw _ (List.mem_of_getElem? (i := 54) rfl))) (mvT hZ (hw _ (List.mem_of_getElem? (i := 53) rfl))) (by decide) (backOf (W := 0) (rmH_1 l Z a0 hw [] b29 x45 aN k4 pA T36.heap n0 Zh36 FS VN) hZ (hw _ (List.mem_of_getElem? (i := 55) rfl)) (hw _ (List.mem_of_getElem? (i := 4) rfl)) (by decide) (by decide)) q52a q52c (g := (mkF m 175 #[.val (.int pA), .val (.int pB), .val (.int pC), .val (.int pD), .val (.int pE), .val (.int (1 : Int32)), .val (.int v6_3), .val (.ref b4), .val (.ref b5), .val (.ref b18), .val (.ref b29), .val (.int x45), .val (.int (0 : Int32))] [(.int x45), (.ref b29)])) rfl (by rw [hml]; rfl) (Steps.refl _) (argsL := [(.int x45)]) (rest := []) (lenOf pd_3 rfl) rfl (by show 2 * 0 + _ ≤ _; exact Nat.le_of_eq rfl) (hb hby at_175) (fun _ _ => ⟨rfl, rfl, (by decide : 10 + 0 ≤ _), (by decide : 44 + 0 ≤ _)⟩)
      dsimp only [Pt.U, Pt.locs, Pt.cells, Pt.slots] at X52 l52 y52 z52 st52 hQ52
      subst l52 y52 z52
      obtain ⟨rfl, N52q, e52⟩ := hQ52
      have N52 := Fr.app N36 N52q
      refine own_back ?_ (fun t k => st52.trans k)
      show own_Go p e below PO (T52.setTop (mkF m 178 #[.val (.int pA), .val (.int pB), .val (.int pC), .val (.int pD), .val (.int pE), .val (.int (1 : Int32)), .val (.int v6_3), .val (.ref b4), .val (.ref b5), .val (.ref b18), .val (.ref b29), .val (.int x45), .val (.int (0 : Int32))] [(.int (own_h1 pA x45))]))
      refine own_gen (A := Int32) (own_h1 pA x45) (fun r175_53 => own_Go p e below PO (T52.setTop (mkF m 178 #[.val (.int pA), .val (.int pB), .val (.int pC), .val (.int pD), .val (.int pE), .val (.int (1 : Int32)), .val (.int v6_3), .val (.ref b4), .val (.ref b5), .val (.ref b18), .val (.ref b29), .val (.int x45), .val (.int (0 : Int32))] [(.int r175_53)]))) ?_
      intro r175_53 h_r175_53
      show own_Go p e below PO (T52.setTop (mkF m 178 #[.val (.int pA), .val (.int pB), .val (.int pC), .val (.int pD), .val (.int pE), .val (.int (1 : Int32)), .val (.int v6_3), .val (.ref b4), .val (.ref b5), .val (.ref b18), .val (.ref b29), .val (.int x45), .val (.int (0 : Int32))] [(.int r175_53)]))
      refine own_back ?_ (fun t k => XS.iload X52.here hx rfl (hb hby at_178) rfl k)
      show own_Go p e below PO (T52.setTop (mkF m 180 #[.val (.int pA), .val (.int pB), .val (.int pC), .val (.int pD), .val (.int pE), .val (.int (1 : Int32)), .val (.int v6_3), .val (.ref b4), .val (.ref b5), .val (.ref b18), .val (.ref b29), .val (.int x45), .val (.int (0 : Int32))] [(.int (0 : Int32)), (.int r175_53)]))
      have hd180_54 : r175_53 = (0 : Int32) := by rw [h_r175_53]; simp [own_h1, own_h2, own_h3, Ne.symm hc137_46]
      refine own_back ?_ (fun t k => XS.icmpNo X52.here hx rfl (hb hby at_180) rfl (teq hd180_54).2 k)
      show own_Go p e below PO (T52.setTop (mkF m 183 #[.val (.int pA), .val (.int pB), .val (.int pC), .val (.int pD), .val (.int pE), .val (.int (1 : Int32)), .val (.int v6_3), .val (.ref b4), .val (.ref b5), .val (.ref b18), .val (.ref b29), .val (.int x45), .val (.int (0 : Int32))] []))
      refine own_back ?_ (fun t k => XS.iconst X52.here hx rfl (hb hby at_183) k)
      show own_Go p e below PO (T52.setTop (mkF m 184 #[.val (.int pA), .val (.int pB), .val (.int pC), .val (.int pD), .val (.int pE), .val (.int (1 : Int32)), .val (.int v6_3), .val (.ref b4), .val (.ref b5), .val (.ref b18), .val (.ref b29), .val (.int x45), .val (.int (0 : Int32))] [(.int (1 : Int32))]))
      refine own_back ?_ (fun t k => XS.goto X52.here hx rfl (pc0 := 184) (pc' := 188) rfl (hb hby at_184) (by decide) (by decide) k)
      show own_Go p e below PO (T52.setTop (mkF m 188 #[.val (.int pA), .val (.int pB), .val (.int pC), .val (.int pD), .val (.int pE), .val (.int (1 : Int32)), .val (.int v6_3), .val (.ref b4), .val (.ref b5), .val (.ref b18), .val (.ref b29), .val (.int x45), .val (.int (0 : Int32))] [(.int (1 : Int32))]))
      refine own_retNW X52 hx (t := .boolean) (rest := []) Bd.returns (by decide) (by simp) (hb hby at_188) e52 (Bd.notSynchronized) ?_ (by decide) (by decide) (s := s) (vm0 := T36.vm) hS36 (Nat.le_refl _)
      exact ⟨rfl, N52⟩
    by_cases hc98_44 : v6_3 = (0 : Int32)
    case pos =>
      refine own_back ?_ (fun t k => XS.ifNo X36.here hx rfl (hb hby at_98) rfl ((if0 _ _).trans (teq hc98_44).2) k)
      show own_Go p e below PO (T36.setTop (mkF m 101 #[.val (.int pA), .val (.int pB), .val (.int pC), .val (.int pD), .val (.int pE), .val (.int (1 : Int32)), .val (.int v6_3), .val (.ref b4), .val (.ref b5), .val (.ref b18), .val (.ref b29), .unset, .unset] []))
      refine own_back ?_ (fun t k => XS.iloadN X36.here hx rfl (hb hby at_101) rfl k)
      show own_Go p e below PO (T36.setTop (mkF m 102 #[.val (.int pA), .val (.int pB), .val (.int pC), .val (.int pD), .val (.int pE), .val (.int (1 : Int32)), .val (.int v6_3), .val (.ref b4), .val (.ref b5), .val (.ref b18), .val (.ref b29), .unset, .unset] [(.int pA)]))
      refine own_back ?_ (fun t k => XS.istore X36.here hx rfl (hb hby at_102) rfl (l' := #[.val (.int pA), .val (.int pB), .val (.int pC), .val (.int pD), .val (.int pE), .val (.int (1 : Int32)), .val (.int v6_3), .val (.ref b4), .val (.ref b5), .val (.ref b18), .val (.ref b29), .val (.int pA), .unset]) rfl k)
      show own_Go p e below PO (T36.setTop (mkF m 104 #[.val (.int pA), .val (.int pB), .val (.int pC), .val (.int pD), .val (.int pE), .val (.int (1 : Int32)), .val (.int v6_3), .val (.ref b4), .val (.ref b5), .val (.ref b18), .val (.ref b29), .val (.int pA), .unset] []))
      refine own_back ?_ (fun t k => XS.goto X36.here hx rfl (pc0 := 104) (pc' := 134) rfl (hb hby at_104) (by decide) (by decide) k)
      show own_Go p e below PO (T36.setTop (mkF m 134 #[.val (.int pA), .val (.int pB), .val (.int pC), .val (.int pD), .val (.int pE), .val (.int (1 : Int32)), .val (.int v6_3), .val (.ref b4), .val (.ref b5), .val (.ref b18), .val (.ref b29), .val (.int pA), .unset] []))
      exact J45 _
    refine own_back ?_ (fun t k => XS.ifYes X36.here hx rfl (pc0 := 98) (pc' := 107) rfl (hb hby at_98) rfl ((if0 _ _).trans (feq hc98_44).2) (by decide) (by decide) k)
    show own_Go p e below PO (T36.setTop (mkF m 107 #[.val (.int pA), .val (.int pB), .val (.int pC), .val (.int pD), .val (.int pE), .val (.int (1 : Int32)), .val (.int v6_3), .val (.ref b4), .val (.ref b5), .val (.ref b18), .val (.ref b29), .unset, .unset] []))
    refine own_back ?_ (fun t k => XS.iload X36.here hx rfl (hb hby at_107) rfl k)
    show own_Go p e below PO (T36.setTop (mkF m 109 #[.val (.int pA), .val (.int pB), .val (.int pC), .val (.int pD), .val (.int pE), .val (.int (1 : Int32)), .val (.int v6_3), .val (.ref b4), .val (.ref b5), .val (.ref b18), .val (.ref b29), .unset, .unset] [(.int v6_3)]))
    refine own_back ?_ (fun t k => XS.iconst X36.here hx rfl (hb hby at_109) k)
    show own_Go p e below PO (T36.setTop (mkF m 110 #[.val (.int pA), .val (.int pB), .val (.int pC), .val (.int pD), .val (.int pE), .val (.int (1 : Int32)), .val (.int v6_3), .val (.ref b4), .val (.ref b5), .val (.ref b18), .val (.ref b29), .unset, .unset] [(.int (1 : Int32)), (.int v6_3)]))
    by_cases hc110_55 : v6_3 = (1 : Int32)
    case pos =>
      refine own_back ?_ (fun t k => XS.icmpNo X36.here hx rfl (hb hby at_110) rfl (teq hc110_55).2 k)
      show own_Go p e below PO (T36.setTop (mkF m 113 #[.val (.int pA), .val (.int pB), .val (.int pC), .val (.int pD), .val (.int pE), .val (.int (1 : Int32)), .val (.int v6_3), .val (.ref b4), .val (.ref b5), .val (.ref b18), .val (.ref b29), .unset, .unset] []))
      refine own_back ?_ (fun t k => XS.iloadN X36.here hx rfl (hb hby at_113) rfl k)
      show own_Go p e below PO (T36.setTop (mkF m 114 #[.val (.int pA), .val (.int pB), .val (.int pC), .val (.int pD), .val (.int pE), .val (.int (1 : Int32)), .val (.int v6_3), .val (.ref b4), .val (.ref b5), .val (.ref b18), .val (.ref b29), .unset, .unset] [(.int pB)]))
      refine own_back ?_ (fun t k => XS.istore X36.here hx rfl (hb hby at_114) rfl (l' := #[.val (.int pA), .val (.int pB), .val (.int pC), .val (.int pD), .val (.int pE), .val (.int (1 : Int32)), .val (.int v6_3), .val (.ref b4), .val (.ref b5), .val (.ref b18), .val (.ref b29), .val (.int pB), .unset]) rfl k)
      show own_Go p e below PO (T36.setTop (mkF m 116 #[.val (.int pA), .val (.int pB), .val (.int pC), .val (.int pD), .val (.int pE), .val (.int (1 : Int32)), .val (.int v6_3), .val (.ref b4), .val (.ref b5), .val (.ref b18), .val (.ref b29), .val (.int pB), .unset] []))
      refine own_back ?_ (fun t k => XS.goto X36.here hx rfl (pc0 := 116) (pc' := 134) rfl (hb hby at_116) (by decide) (by decide) k)
      show own_Go p e below PO (T36.setTop (mkF m 134 #[.val (.int pA), .val (.int pB), .val (.int pC), .val (.int pD), .val (.int pE), .val (.int (1 : Int32)), .val (.int v6_3), .val (.ref b4), .val (.ref b5), .val (.ref b18), .val (.ref b29), .val (.int pB), .unset] []))
      exact J45 _
    refine own_back ?_ (fun t k => XS.icmpYes X36.here hx rfl (pc0 := 110) (pc' := 119) rfl (hb hby at_110) rfl (feq hc110_55).2 (by decide) (by decide) k)
    show own_Go p e below PO (T36.setTop (mkF m 119 #[.val (.int pA), .val (.int pB), .val (.int pC), .val (.int pD), .val (.int pE), .val (.int (1 : Int32)), .val (.int v6_3), .val (.ref b4), .val (.ref b5), .val (.ref b18), .val (.ref b29), .unset, .unset] []))
    refine own_back ?_ (fun t k => XS.iload X36.here hx rfl (hb hby at_119) rfl k)
    show own_Go p e below PO (T36.setTop (mkF m 121 #[.val (.int pA), .val (.int pB), .val (.int pC), .val (.int pD), .val (.int pE), .val (.int (1 : Int32)), .val (.int v6_3), .val (.ref b4), .val (.ref b5), .val (.ref b18), .val (.ref b29), .unset, .unset] [(.int v6_3)]))
    refine own_back ?_ (fun t k => XS.iconst X36.here hx rfl (hb hby at_121) k)
    show own_Go p e below PO (T36.setTop (mkF m 122 #[.val (.int pA), .val (.int pB), .val (.int pC), .val (.int pD), .val (.int pE), .val (.int (1 : Int32)), .val (.int v6_3), .val (.ref b4), .val (.ref b5), .val (.ref b18), .val (.ref b29), .unset, .unset] [(.int (2 : Int32)), (.int v6_3)]))
    by_cases hc122_56 : v6_3 = (2 : Int32)
    case pos =>
      refine own_back ?_ (fun t k => XS.icmpNo X36.here hx rfl (hb hby at_122) rfl (teq hc122_56).2 k)
      show own_Go p e below PO (T36.setTop (mkF m 125 #[.val (.int pA), .val (.int pB), .val (.int pC), .val (.int pD), .val (.int pE), .val (.int (1 : Int32)), .val (.int v6_3), .val (.ref b4), .val (.ref b5), .val (.ref b18), .val (.ref b29), .unset, .unset] []))
      refine own_back ?_ (fun t k => XS.iloadN X36.here hx rfl (hb hby at_125) rfl k)
      show own_Go p e below PO (T36.setTop (mkF m 126 #[.val (.int pA), .val (.int pB), .val (.int pC), .val (.int pD), .val (.int pE), .val (.int (1 : Int32)), .val (.int v6_3), .val (.ref b4), .val (.ref b5), .val (.ref b18), .val (.ref b29), .unset, .unset] [(.int pC)]))
      refine own_back ?_ (fun t k => XS.istore X36.here hx rfl (hb hby at_126) rfl (l' := #[.val (.int pA), .val (.int pB), .val (.int pC), .val (.int pD), .val (.int pE), .val (.int (1 : Int32)), .val (.int v6_3), .val (.ref b4), .val (.ref b5), .val (.ref b18), .val (.ref b29), .val (.int pC), .unset]) rfl k)
      show own_Go p e below PO (T36.setTop (mkF m 128 #[.val (.int pA), .val (.int pB), .val (.int pC), .val (.int pD), .val (.int pE), .val (.int (1 : Int32)), .val (.int v6_3), .val (.ref b4), .val (.ref b5), .val (.ref b18), .val (.ref b29), .val (.int pC), .unset] []))
      refine own_back ?_ (fun t k => XS.goto X36.here hx rfl (pc0 := 128) (pc' := 134) rfl (hb hby at_128) (by decide) (by decide) k)
      show own_Go p e below PO (T36.setTop (mkF m 134 #[.val (.int pA), .val (.int pB), .val (.int pC), .val (.int pD), .val (.int pE), .val (.int (1 : Int32)), .val (.int v6_3), .val (.ref b4), .val (.ref b5), .val (.ref b18), .val (.ref b29), .val (.int pC), .unset] []))
      exact J45 _
    refine own_back ?_ (fun t k => XS.icmpYes X36.here hx rfl (pc0 := 122) (pc' := 131) rfl (hb hby at_122) rfl (feq hc122_56).2 (by decide) (by decide) k)
    show own_Go p e below PO (T36.setTop (mkF m 131 #[.val (.int pA), .val (.int pB), .val (.int pC), .val (.int pD), .val (.int pE), .val (.int (1 : Int32)), .val (.int v6_3), .val (.ref b4), .val (.ref b5), .val (.ref b18), .val (.ref b29), .unset, .unset] []))
    refine own_back ?_ (fun t k => XS.iloadN X36.here hx rfl (hb hby at_131) rfl k)
    show own_Go p e below PO (T36.setTop (mkF m 132 #[.val (.int pA), .val (.int pB), .val (.int pC), .val (.int pD), .val (.int pE), .val (.int (1 : Int32)), .val (.int v6_3), .val (.ref b4), .val (.ref b5), .val (.ref b18), .val (.ref b29), .unset, .unset] [(.int pD)]))
    refine own_back ?_ (fun t k => XS.istore X36.here hx rfl (hb hby at_132) rfl (l' := #[.val (.int pA), .val (.int pB), .val (.int pC), .val (.int pD), .val (.int pE), .val (.int (1 : Int32)), .val (.int v6_3), .val (.ref b4), .val (.ref b5), .val (.ref b18), .val (.ref b29), .val (.int pD), .unset]) rfl k)
    show own_Go p e below PO (T36.setTop (mkF m 134 #[.val (.int pA), .val (.int pB), .val (.int pC), .val (.int pD), .val (.int pE), .val (.int (1 : Int32)), .val (.int v6_3), .val (.ref b4), .val (.ref b5), .val (.ref b18), .val (.ref b29), .val (.int pD), .unset] []))
    exact J45 _
  · subst q2
    show own_Go p e below PO (s₁.setTop (mkF m 10 #[.val (.int pA), .val (.int pB), .val (.int pC), .val (.int pD), .val (.int pE), .val (.int (2 : Int32)), .unset, .unset, .unset, .unset, .unset, .unset, .unset] []))
    refine own_back ?_ (fun t k => XS.iload X0.here hx rfl (hb hby at_10) rfl k)
    show own_Go p e below PO (s₁.setTop (mkF m 12 #[.val (.int pA), .val (.int pB), .val (.int pC), .val (.int pD), .val (.int pE), .val (.int (2 : Int32)), .unset, .unset, .unset, .unset, .unset, .unset, .unset] [(.int pE)]))
    refine own_back ?_ (fun t k => XS.iconst X0.here hx rfl (hb hby at_12) k)
    show own_Go p e below PO (s₁.setTop (mkF m 13 #[.val (.int pA), .val (.int pB), .val (.int pC), .val (.int pD), .val (.int pE), .val (.int (2 : Int32)), .unset, .unset, .unset, .unset, .unset, .unset, .unset] [(.int (3 : Int32)), (.int pE)]))
    refine own_back ?_ (fun t k => XS.iand X0.here hx rfl (hb hby at_13) rfl k)
    show own_Go p e below PO (s₁.setTop (mkF m 14 #[.val (.int pA), .val (.int pB), .val (.int pC), .val (.int pD), .val (.int pE), .val (.int (2 : Int32)), .unset, .unset, .unset, .unset, .unset, .unset, .unset] [(.int (pE &&& (3 : Int32)))]))
    refine own_back ?_ (fun t k => XS.istore X0.here hx rfl (hb hby at_14) rfl (l' := #[.val (.int pA), .val (.int pB), .val (.int pC), .val (.int pD), .val (.int pE), .val (.int (2 : Int32)), .val (.int (pE &&& (3 : Int32))), .unset, .unset, .unset, .unset, .unset, .unset]) rfl k)
    show own_Go p e below PO (s₁.setTop (mkF m 16 #[.val (.int pA), .val (.int pB), .val (.int pC), .val (.int pD), .val (.int pE), .val (.int (2 : Int32)), .val (.int (pE &&& (3 : Int32))), .unset, .unset, .unset, .unset, .unset, .unset] []))
    refine own_gen (A := Int32) (pE &&& (3 : Int32)) (fun v6_57 => own_Go p e below PO (s₁.setTop (mkF m 16 #[.val (.int pA), .val (.int pB), .val (.int pC), .val (.int pD), .val (.int pE), .val (.int (2 : Int32)), .val (.int v6_57), .unset, .unset, .unset, .unset, .unset, .unset] []))) ?_
    intro v6_57 h_v6_57
    show own_Go p e below PO (s₁.setTop (mkF m 16 #[.val (.int pA), .val (.int pB), .val (.int pC), .val (.int pD), .val (.int pE), .val (.int (2 : Int32)), .val (.int v6_57), .unset, .unset, .unset, .unset, .unset, .unset] []))
    refine own_back ?_ (fun t k => XS.iload X0.here hx rfl (hb hby at_16) rfl k)
    show own_Go p e below PO (s₁.setTop (mkF m 18 #[.val (.int pA), .val (.int pB), .val (.int pC), .val (.int pD), .val (.int pE), .val (.int (2 : Int32)), .val (.int v6_57), .unset, .unset, .unset, .unset, .unset, .unset] [(.int (2 : Int32))]))
    obtain ⟨T58, h58, k58, X58, e58, E58, A58, Ex58, st58⟩ := newPE X0 hx hZ (hw _ (List.mem_of_getElem? (i := 0) rfl)) e0 (g := (mkF m 18 #[.val (.int pA), .val (.int pB), .val (.int pC), .val (.int pD), .val (.int pE), .val (.int (2 : Int32)), .val (.int v6_57), .unset, .unset, .unset, .unset, .unset, .unset] [(.int (2 : Int32))])) rfl (hb hby at_18) rfl (by decide) (cap := 2) (by decide) (by decide) (by decide) (by decide) (ad := "[I") (by decide)
    obtain ⟨b58, g58⟩ : ∃ z, z = h0.size := ⟨_, rfl⟩
    rw [← g58] at A58 Ex58 st58
    have sz_b58 : h0.size ≤ b58 := Nat.le_of_eq g58.symm
    have gn_b58 : n0 ≤ b58 := Nat.le_trans Z0 sz_b58
    have K58 : Keep h0 h58 [] := (Keep.refl h0 []).ext E58
    have Zh58 : n0 ≤ h58.size := Nat.le_trans Z0 K58.1
    have V58 : Arv Z h58 b58 k58 .int (2 : Int32) [(.int (0 : Int32)), (.int (0 : Int32))] (.int (0 : Int32)) := (Arv.new A58 (by decide)).pad (pad_rep [] (.int (0 : Int32)) 2)
    refine own_back ?_ st58
    show own_Go p e below PO (T58.setTop (mkF m 20 #[.val (.int pA), .val (.int pB), .val (.int pC), .val (.int pD), .val (.int pE), .val (.int (2 : Int32)), .val (.int v6_57), .unset, .unset, .unset, .unset, .unset, .unset] [(.ref b58)]))
    refine own_back ?_ (fun t k => XS.astore X58.here hx rfl (hb hby at_20) rfl rfl (l' := #[.val (.int pA), .val (.int pB), .val (.int pC), .val (.int pD), .val (.int pE), .val (.int (2 : Int32)), .val (.int v6_57), .val (.ref b58), .unset, .unset, .unset, .unset, .unset]) rfl k)
    show own_Go p e below PO (T58.setTop (mkF m 22 #[.val (.int pA), .val (.int pB), .val (.int pC), .val (.int pD), .val (.int pE), .val (.int (2 : Int32)), .val (.int v6_57), .val (.ref b58), .unset, .unset, .unset, .unset, .unset] []))
    refine own_back ?_ (fun t k => XS.iload X58.here hx rfl (hb hby at_22) rfl k)
    show own_Go p e below PO (T58.setTop (mkF m 24 #[.val (.int pA), .val (.int pB), .val (.int pC), .val (.int pD), .val (.int pE), .val (.int (2 : Int32)), .val (.int v6_57), .val (.ref b58), .unset, .unset, .unset, .unset, .unset] [(.int (2 : Int32))]))
    obtain ⟨T59, h59, k59, X59, e59, E59, A59, Ex59, st59⟩ := newPE X58 hx hZ (hw _ (List.mem_of_getElem? (i := 0) rfl)) e58 (g := (mkF m 24 #[.val (.int pA), .val (.int pB), .val (.int pC), .val (.int pD), .val (.int pE), .val (.int (2 : Int32)), .val (.int v6_57), .val (.ref b58), .unset, .unset, .unset, .unset, .unset] [(.int (2 : Int32))])) rfl (hb hby at_24) rfl (by decide) (cap := 2) (by decide) (by decide) (by decide) (by decide) (ad := "[I") (by decide)
    obtain ⟨b59, g59⟩ : ∃ z, z = h58.size := ⟨_, rfl⟩
    rw [← g59] at A59 Ex59 st59
    have ne_b58_b59 : b58 ≠ b59 := Nat.ne_of_lt (Nat.lt_of_lt_of_le Ex58.lt (Nat.le_of_eq g59.symm))
    have sz_b59 : h0.size ≤ b59 := Nat.le_trans K58.1 (Nat.le_of_eq g59.symm)
    have gn_b59 : n0 ≤ b59 := Nat.le_trans Z0 sz_b59
    have f59_60 := Ex58.ext E59
    have f59_61 := V58.ext E59
    have K59 : Keep h0 h59 [] := (K58).ext E59
    have Zh59 : n0 ≤ h59.size := Nat.le_trans Z0 K59.1
    have V59 : Arv Z h59 b59 k59 .int (2 : Int32) [(.int (0 : Int32)), (.int (0 : Int32))] (.int (0 : Int32)) := (Arv.new A59 (by decide)).pad (pad_rep [] (.int (0 : Int32)) 2)
    refine own_back ?_ st59
    show own_Go p e below PO (T59.setTop (mkF m 26 #[.val (.int pA), .val (.int pB), .val (.int pC), .val (.int pD), .val (.int pE), .val (.int (2 : Int32)), .val (.int v6_57), .val (.ref b58), .unset, .unset, .unset, .unset, .unset] [(.ref b59)]))
    refine own_back ?_ (fun t k => XS.astore X59.here hx rfl (hb hby at_26) rfl rfl (l' := #[.val (.int pA), .val (.int pB), .val (.int pC), .val (.int pD), .val (.int pE), .val (.int (2 : Int32)), .val (.int v6_57), .val (.ref b58), .val (.ref b59), .unset, .unset, .unset, .unset]) rfl k)
    show own_Go p e below PO (T59.setTop (mkF m 28 #[.val (.int pA), .val (.int pB), .val (.int pC), .val (.int pD), .val (.int pE), .val (.int (2 : Int32)), .val (.int v6_57), .val (.ref b58), .val (.ref b59), .unset, .unset, .unset, .unset] []))
    refine own_back ?_ (fun t k => XS.aload X59.here hx rfl (hb hby at_28) rfl rfl k)
    show own_Go p e below PO (T59.setTop (mkF m 30 #[.val (.int pA), .val (.int pB), .val (.int pC), .val (.int pD), .val (.int pE), .val (.int (2 : Int32)), .val (.int v6_57), .val (.ref b58), .val (.ref b59), .unset, .unset, .unset, .unset] [(.ref b58)]))
    refine own_back ?_ (fun t k => XS.iconst X59.here hx rfl (hb hby at_30) k)
    show own_Go p e below PO (T59.setTop (mkF m 31 #[.val (.int pA), .val (.int pB), .val (.int pC), .val (.int pD), .val (.int pE), .val (.int (2 : Int32)), .val (.int v6_57), .val (.ref b58), .val (.ref b59), .unset, .unset, .unset, .unset] [(.int (0 : Int32)), (.ref b58)]))
    refine own_back ?_ (fun t k => XS.iloadN X59.here hx rfl (hb hby at_31) rfl k)
    show own_Go p e below PO (T59.setTop (mkF m 32 #[.val (.int pA), .val (.int pB), .val (.int pC), .val (.int pD), .val (.int pE), .val (.int (2 : Int32)), .val (.int v6_57), .val (.ref b58), .val (.ref b59), .unset, .unset, .unset, .unset] [(.int pA), (.int (0 : Int32)), (.ref b58)]))
    obtain ⟨T62, h62, X62, e62, W62, V62, st62⟩ := own_stI X59 hx hZ e59 f59_61 (j := (0 : Int32)) ⟨by decide, by decide⟩ (i := 0) rfl (by show 0 < 2; decide) (g := (mkF m 32 #[.val (.int pA), .val (.int pB), .val (.int pC), .val (.int pD), .val (.int pE), .val (.int (2 : Int32)), .val (.int v6_57), .val (.ref b58), .val (.ref b59), .unset, .unset, .unset, .unset] [(.int pA), (.int (0 : Int32)), (.ref b58)])) rfl rfl (hb hby at_32)
    replace V62 : Arv Z h62 b58 k58 .int (2 : Int32) [(.int pA), (.int (0 : Int32))] (.int (0 : Int32)) := V62
    have f62_63 := f59_60.wr W62
    have f62_64 := Ex59.wr W62
    have f62_65 := V59.other W62 (Ne.symm ne_b58_b59)
    have K62 : Keep h0 h62 [] := (K59).wr W62 (Or.inr sz_b58)
    have N62 := Fr.snoc X62 N0 gn_b58
    have Zh62 : n0 ≤ h62.size := Nat.le_trans Z0 K62.1
    refine own_back ?_ st62
    show own_Go p e below PO (T62.setTop (mkF m 33 #[.val (.int pA), .val (.int pB), .val (.int pC), .val (.int pD), .val (.int pE), .val (.int (2 : Int32)), .val (.int v6_57), .val (.ref b58), .val (.ref b59), .unset, .unset, .unset, .unset] []))
    refine own_back ?_ (fun t k => XS.aload X62.here hx rfl (hb hby at_33) rfl rfl k)
    show own_Go p e below PO (T62.setTop (mkF m 35 #[.val (.int pA), .val (.int pB), .val (.int pC), .val (.int pD), .val (.int pE), .val (.int (2 : Int32)), .val (.int v6_57), .val (.ref b58), .val (.ref b59), .unset, .unset, .unset, .unset] [(.ref b59)]))
    refine own_back ?_ (fun t k => XS.iconst X62.here hx rfl (hb hby at_35) k)
    show own_Go p e below PO (T62.setTop (mkF m 36 #[.val (.int pA), .val (.int pB), .val (.int pC), .val (.int pD), .val (.int pE), .val (.int (2 : Int32)), .val (.int v6_57), .val (.ref b58), .val (.ref b59), .unset, .unset, .unset, .unset] [(.int (0 : Int32)), (.ref b59)]))
    refine own_back ?_ (fun t k => XS.iconst X62.here hx rfl (hb hby at_36) k)
    show own_Go p e below PO (T62.setTop (mkF m 37 #[.val (.int pA), .val (.int pB), .val (.int pC), .val (.int pD), .val (.int pE), .val (.int (2 : Int32)), .val (.int v6_57), .val (.ref b58), .val (.ref b59), .unset, .unset, .unset, .unset] [(.int (1 : Int32)), (.int (0 : Int32)), (.ref b59)]))
    obtain ⟨T66, h66, X66, e66, W66, V66, st66⟩ := own_stI X62 hx hZ e62 f62_65 (j := (0 : Int32)) ⟨by decide, by decide⟩ (i := 0) rfl (by show 0 < 2; decide) (g := (mkF m 37 #[.val (.int pA), .val (.int pB), .val (.int pC), .val (.int pD), .val (.int pE), .val (.int (2 : Int32)), .val (.int v6_57), .val (.ref b58), .val (.ref b59), .unset, .unset, .unset, .unset] [(.int (1 : Int32)), (.int (0 : Int32)), (.ref b59)])) rfl rfl (hb hby at_37)
    replace V66 : Arv Z h66 b59 k59 .int (2 : Int32) [(.int (1 : Int32)), (.int (0 : Int32))] (.int (0 : Int32)) := V66
    have f66_67 := f62_63.wr W66
    have f66_68 := V62.other W66 ne_b58_b59
    have f66_69 := f62_64.wr W66
    have K66 : Keep h0 h66 [] := (K62).wr W66 (Or.inr sz_b59)
    have N66 := Fr.snoc X66 N62 gn_b59
    have Zh66 : n0 ≤ h66.size := Nat.le_trans Z0 K66.1
    refine own_back ?_ st66
    show own_Go p e below PO (T66.setTop (mkF m 38 #[.val (.int pA), .val (.int pB), .val (.int pC), .val (.int pD), .val (.int pE), .val (.int (2 : Int32)), .val (.int v6_57), .val (.ref b58), .val (.ref b59), .unset, .unset, .unset, .unset] []))
    refine own_back ?_ (fun t k => XS.iload X66.here hx rfl (hb hby at_38) rfl k)
    show own_Go p e below PO (T66.setTop (mkF m 40 #[.val (.int pA), .val (.int pB), .val (.int pC), .val (.int pD), .val (.int pE), .val (.int (2 : Int32)), .val (.int v6_57), .val (.ref b58), .val (.ref b59), .unset, .unset, .unset, .unset] [(.int (2 : Int32))]))
    refine own_back ?_ (fun t k => XS.iconst X66.here hx rfl (hb hby at_40) k)
    show own_Go p e below PO (T66.setTop (mkF m 41 #[.val (.int pA), .val (.int pB), .val (.int pC), .val (.int pD), .val (.int pE), .val (.int (2 : Int32)), .val (.int v6_57), .val (.ref b58), .val (.ref b59), .unset, .unset, .unset, .unset] [(.int (2 : Int32)), (.int (2 : Int32))]))
    refine own_back ?_ (fun t k => XS.icmpNo X66.here hx rfl (hb hby at_41) rfl (flt Int32.lt_irrefl).1 k)
    show own_Go p e below PO (T66.setTop (mkF m 44 #[.val (.int pA), .val (.int pB), .val (.int pC), .val (.int pD), .val (.int pE), .val (.int (2 : Int32)), .val (.int v6_57), .val (.ref b58), .val (.ref b59), .unset, .unset, .unset, .unset] []))
    refine own_back ?_ (fun t k => XS.aload X66.here hx rfl (hb hby at_44) rfl rfl k)
    show own_Go p e below PO (T66.setTop (mkF m 46 #[.val (.int pA), .val (.int pB), .val (.int pC), .val (.int pD), .val (.int pE), .val (.int (2 : Int32)), .val (.int v6_57), .val (.ref b58), .val (.ref b59), .unset, .unset, .unset, .unset] [(.ref b58)]))
    refine own_back ?_ (fun t k => XS.iconst X66.here hx rfl (hb hby at_46) k)
    show own_Go p e below PO (T66.setTop (mkF m 47 #[.val (.int pA), .val (.int pB), .val (.int pC), .val (.int pD), .val (.int pE), .val (.int (2 : Int32)), .val (.int v6_57), .val (.ref b58), .val (.ref b59), .unset, .unset, .unset, .unset] [(.int (1 : Int32)), (.ref b58)]))
    refine own_back ?_ (fun t k => XS.iloadN X66.here hx rfl (hb hby at_47) rfl k)
    show own_Go p e below PO (T66.setTop (mkF m 48 #[.val (.int pA), .val (.int pB), .val (.int pC), .val (.int pD), .val (.int pE), .val (.int (2 : Int32)), .val (.int v6_57), .val (.ref b58), .val (.ref b59), .unset, .unset, .unset, .unset] [(.int pB), (.int (1 : Int32)), (.ref b58)]))
    obtain ⟨T70, h70, X70, e70, W70, V70, st70⟩ := own_stI X66 hx hZ e66 f66_68 (j := (1 : Int32)) ⟨by decide, by decide⟩ (i := 1) rfl (by show 1 < 2; decide) (g := (mkF m 48 #[.val (.int pA), .val (.int pB), .val (.int pC), .val (.int pD), .val (.int pE), .val (.int (2 : Int32)), .val (.int v6_57), .val (.ref b58), .val (.ref b59), .unset, .unset, .unset, .unset] [(.int pB), (.int (1 : Int32)), (.ref b58)])) rfl rfl (hb hby at_48)
    replace V70 : Arv Z h70 b58 k58 .int (2 : Int32) [(.int pA), (.int pB)] (.int (0 : Int32)) := V70
    have f70_71 := f66_67.wr W70
    have f70_72 := f66_69.wr W70
    have f70_73 := V66.other W70 (Ne.symm ne_b58_b59)
    have K70 : Keep h0 h70 [] := (K66).wr W70 (Or.inr sz_b58)
    have N70 := Fr.snoc X70 N66 gn_b58
    have Zh70 : n0 ≤ h70.size := Nat.le_trans Z0 K70.1
    refine own_back ?_ st70
    show own_Go p e below PO (T70.setTop (mkF m 49 #[.val (.int pA), .val (.int pB), .val (.int pC), .val (.int pD), .val (.int pE), .val (.int (2 : Int32)), .val (.int v6_57), .val (.ref b58), .val (.ref b59), .unset, .unset, .unset, .unset] []))
    refine own_back ?_ (fun t k => XS.aload X70.here hx rfl (hb hby at_49) rfl rfl k)
    show own_Go p e below PO (T70.setTop (mkF m 51 #[.val (.int pA), .val (.int pB), .val (.int pC), .val (.int pD), .val (.int pE), .val (.int (2 : Int32)), .val (.int v6_57), .val (.ref b58), .val (.ref b59), .unset, .unset, .unset, .unset] [(.ref b59)]))
    refine own_back ?_ (fun t k => XS.iconst X70.here hx rfl (hb hby at_51) k)
    show own_Go p e below PO (T70.setTop (mkF m 52 #[.val (.int pA), .val (.int pB), .val (.int pC), .val (.int pD), .val (.int pE), .val (.int (2 : Int32)), .val (.int v6_57), .val (.ref b58), .val (.ref b59), .unset, .unset, .unset, .unset] [(.int (1 : Int32)), (.ref b59)]))
    refine own_back ?_ (fun t k => XS.iconst X70.here hx rfl (hb hby at_52) k)
    show own_Go p e below PO (T70.setTop (mkF m 53 #[.val (.int pA), .val (.int pB), .val (.int pC), .val (.int pD), .val (.int pE), .val (.int (2 : Int32)), .val (.int v6_57), .val (.ref b58), .val (.ref b59), .unset, .unset, .unset, .unset] [(.int (1 : Int32)), (.int (1 : Int32)), (.ref b59)]))
    obtain ⟨T74, h74, X74, e74, W74, V74, st74⟩ := own_stI X70 hx hZ e70 f70_73 (j := (1 : Int32)) ⟨by decide, by decide⟩ (i := 1) rfl (by show 1 < 2; decide) (g := (mkF m 53 #[.val (.int pA), .val (.int pB), .val (.int pC), .val (.int pD), .val (.int pE), .val (.int (2 : Int32)), .val (.int v6_57), .val (.ref b58), .val (.ref b59), .unset, .unset, .unset, .unset] [(.int (1 : Int32)), (.int (1 : Int32)), (.ref b59)])) rfl rfl (hb hby at_53)
    replace V74 : Arv Z h74 b59 k59 .int (2 : Int32) [(.int (1 : Int32)), (.int (1 : Int32))] (.int (0 : Int32)) := V74
    have f74_75 := f70_71.wr W74
    have f74_76 := V70.other W74 ne_b58_b59
    have f74_77 := f70_72.wr W74
    have K74 : Keep h0 h74 [] := (K70).wr W74 (Or.inr sz_b59)
    have N74 := Fr.snoc X74 N70 gn_b59
    have Zh74 : n0 ≤ h74.size := Nat.le_trans Z0 K74.1
    refine own_back ?_ st74
    show own_Go p e below PO (T74.setTop (mkF m 54 #[.val (.int pA), .val (.int pB), .val (.int pC), .val (.int pD), .val (.int pE), .val (.int (2 : Int32)), .val (.int v6_57), .val (.ref b58), .val (.ref b59), .unset, .unset, .unset, .unset] []))
    refine own_back ?_ (fun t k => XS.iload X74.here hx rfl (hb hby at_54) rfl k)
    show own_Go p e below PO (T74.setTop (mkF m 56 #[.val (.int pA), .val (.int pB), .val (.int pC), .val (.int pD), .val (.int pE), .val (.int (2 : Int32)), .val (.int v6_57), .val (.ref b58), .val (.ref b59), .unset, .unset, .unset, .unset] [(.int (2 : Int32))]))
    refine own_back ?_ (fun t k => XS.iconst X74.here hx rfl (hb hby at_56) k)
    show own_Go p e below PO (T74.setTop (mkF m 57 #[.val (.int pA), .val (.int pB), .val (.int pC), .val (.int pD), .val (.int pE), .val (.int (2 : Int32)), .val (.int v6_57), .val (.ref b58), .val (.ref b59), .unset, .unset, .unset, .unset] [(.int (3 : Int32)), (.int (2 : Int32))]))
    have hd57_78 : (2 : Int32) < (3 : Int32) := (by decide)
    refine own_back ?_ (fun t k => XS.icmpYes X74.here hx rfl (pc0 := 57) (pc' := 70) rfl (hb hby at_57) rfl (tlt hd57_78).1 (by decide) (by decide) k)
    show own_Go p e below PO (T74.setTop (mkF m 70 #[.val (.int pA), .val (.int pB), .val (.int pC), .val (.int pD), .val (.int pE), .val (.int (2 : Int32)), .val (.int v6_57), .val (.ref b58), .val (.ref b59), .unset, .unset, .unset, .unset] []))
    refine own_back ?_ (fun t k => XS.iconst X74.here hx rfl (hb hby at_70) k)
    show own_Go p e below PO (T74.setTop (mkF m 71 #[.val (.int pA), .val (.int pB), .val (.int pC), .val (.int pD), .val (.int pE), .val (.int (2 : Int32)), .val (.int v6_57), .val (.ref b58), .val (.ref b59), .unset, .unset, .unset, .unset] [(.int (1 : Int32))]))
    obtain ⟨T79, h79, k79, X79, e79, E79, A79, Ex79, st79⟩ := newPE X74 hx hZ (hw _ (List.mem_of_getElem? (i := 1) rfl)) e74 (g := (mkF m 71 #[.val (.int pA), .val (.int pB), .val (.int pC), .val (.int pD), .val (.int pE), .val (.int (2 : Int32)), .val (.int v6_57), .val (.ref b58), .val (.ref b59), .unset, .unset, .unset, .unset] [(.int (1 : Int32))])) rfl (hb hby at_71) rfl (by decide) (cap := 1) (by decide) (by decide) (by decide) (by decide) (ad := "[D") (by decide)
    obtain ⟨b79, g79⟩ : ∃ z, z = h74.size := ⟨_, rfl⟩
    rw [← g79] at A79 Ex79 st79
    have ne_b58_b79 : b58 ≠ b79 := Nat.ne_of_lt (Nat.lt_of_lt_of_le f74_75.lt (Nat.le_of_eq g79.symm))
    have ne_b59_b79 : b59 ≠ b79 := Nat.ne_of_lt (Nat.lt_of_lt_of_le f74_77.lt (Nat.le_of_eq g79.symm))
    have sz_b79 : h0.size ≤ b79 := Nat.le_trans K74.1 (Nat.le_of_eq g79.symm)
    have gn_b79 : n0 ≤ b79 := Nat.le_trans Z0 sz_b79
    have f79_80 := f74_75.ext E79
    have f79_81 := f74_76.ext E79
    have f79_82 := f74_77.ext E79
    have f79_83 := V74.ext E79
    have K79 : Keep h0 h79 [] := (K74).ext E79
    have Zh79 : n0 ≤ h79.size := Nat.le_trans Z0 K79.1
    have V79 : Arv Z h79 b79 k79 .double (1 : Int32) [(.double (0 : UInt64))] (.double (0 : UInt64)) := (Arv.new A79 (by decide)).pad (pad_rep [] (.double (0 : UInt64)) 1)
    refine own_back ?_ st79
    show own_Go p e below PO (T79.setTop (mkF m 73 #[.val (.int pA), .val (.int pB), .val (.int pC), .val (.int pD), .val (.int pE), .val (.int (2 : Int32)), .val (.int v6_57), .val (.ref b58), .val (.ref b59), .unset, .unset, .unset, .unset] [(.ref b79)]))
    refine own_back ?_ (fun t k => XS.astore X79.here hx rfl (hb hby at_73) rfl rfl (l' := #[.val (.int pA), .val (.int pB), .val (.int pC), .val (.int pD), .val (.int pE), .val (.int (2 : Int32)), .val (.int v6_57), .val (.ref b58), .val (.ref b59), .val (.ref b79), .unset, .unset, .unset]) rfl k)
    show own_Go p e below PO (T79.setTop (mkF m 75 #[.val (.int pA), .val (.int pB), .val (.int pC), .val (.int pD), .val (.int pE), .val (.int (2 : Int32)), .val (.int v6_57), .val (.ref b58), .val (.ref b59), .val (.ref b79), .unset, .unset, .unset] []))
    refine own_back ?_ (fun t k => XS.aload X79.here hx rfl (hb hby at_75) rfl rfl k)
    show own_Go p e below PO (T79.setTop (mkF m 77 #[.val (.int pA), .val (.int pB), .val (.int pC), .val (.int pD), .val (.int pE), .val (.int (2 : Int32)), .val (.int v6_57), .val (.ref b58), .val (.ref b59), .val (.ref b79), .unset, .unset, .unset] [(.ref b79)]))
    refine own_back ?_ (fun t k => XS.iconst X79.here hx rfl (hb hby at_77) k)
    show own_Go p e below PO (T79.setTop (mkF m 78 #[.val (.int pA), .val (.int pB), .val (.int pC), .val (.int pD), .val (.int pE), .val (.int (2 : Int32)), .val (.int v6_57), .val (.ref b58), .val (.ref b59), .val (.ref b79), .unset, .unset, .unset] [(.int (0 : Int32)), (.ref b79)]))
    refine own_back ?_ (fun t k => XS.dconst0 X79.here hx rfl (v := (0 : UInt64)) (hb hby at_78) (by decide +kernel) k)
    show own_Go p e below PO (T79.setTop (mkF m 79 #[.val (.int pA), .val (.int pB), .val (.int pC), .val (.int pD), .val (.int pE), .val (.int (2 : Int32)), .val (.int v6_57), .val (.ref b58), .val (.ref b59), .val (.ref b79), .unset, .unset, .unset] [(.double (0 : UInt64)), (.int (0 : Int32)), (.ref b79)]))
    obtain ⟨T84, h84, X84, e84, W84, V84, st84⟩ := own_stD X79 hx hZ e79 V79 (j := (0 : Int32)) ⟨by decide, by decide⟩ (i := 0) rfl (by show 0 < 1; decide) (g := (mkF m 79 #[.val (.int pA), .val (.int pB), .val (.int pC), .val (.int pD), .val (.int pE), .val (.int (2 : Int32)), .val (.int v6_57), .val (.ref b58), .val (.ref b59), .val (.ref b79), .unset, .unset, .unset] [(.double (0 : UInt64)), (.int (0 : Int32)), (.ref b79)])) rfl rfl (hb hby at_79)
    replace V84 : Arv Z h84 b79 k79 .double (1 : Int32) [(.double (0 : UInt64))] (.double (0 : UInt64)) := V84
    have f84_85 := f79_80.wr W84
    have f84_86 := f79_81.other W84 ne_b58_b79
    have f84_87 := f79_82.wr W84
    have f84_88 := f79_83.other W84 ne_b59_b79
    have f84_89 := Ex79.wr W84
    have K84 : Keep h0 h84 [] := (K79).wr W84 (Or.inr sz_b79)
    have N84 := Fr.snoc X84 N74 gn_b79
    have Zh84 : n0 ≤ h84.size := Nat.le_trans Z0 K84.1
    refine own_back ?_ st84
    show own_Go p e below PO (T84.setTop (mkF m 80 #[.val (.int pA), .val (.int pB), .val (.int pC), .val (.int pD), .val (.int pE), .val (.int (2 : Int32)), .val (.int v6_57), .val (.ref b58), .val (.ref b59), .val (.ref b79), .unset, .unset, .unset] []))
    obtain ⟨T90, h90, X90, e90, E90, A90, D90, -, st90⟩ := newO X84 hx hZ hown (hw _ (List.mem_of_getElem? (i := 2) rfl)) (hw _ (List.mem_of_getElem? (i := 3) rfl)) (hw _ (List.mem_of_getElem? (i := 4) rfl)) e84 (g := (mkF m 80 #[.val (.int pA), .val (.int pB), .val (.int pC), .val (.int pD), .val (.int pE), .val (.int (2 : Int32)), .val (.int v6_57), .val (.ref b58), .val (.ref b59), .val (.ref b79), .unset, .unset, .unset] [])) rfl (hb hby at_80) (by decide) (by decide)
    obtain ⟨b90, g90⟩ : ∃ z, z = h84.size := ⟨_, rfl⟩
    rw [← g90] at A90 D90 st90
    have ne_b58_b90 : b58 ≠ b90 := Nat.ne_of_lt (Nat.lt_of_lt_of_le f84_85.lt (Nat.le_of_eq g90.symm))
    have ne_b59_b90 : b59 ≠ b90 := Nat.ne_of_lt (Nat.lt_of_lt_of_le f84_87.lt (Nat.le_of_eq g90.symm))
    have ne_b79_b90 : b79 ≠ b90 := Nat.ne_of_lt (Nat.lt_of_lt_of_le f84_89.lt (Nat.le_of_eq g90.symm))
    have sz_b90 : h0.size ≤ b90 := Nat.le_trans K84.1 (Nat.le_of_eq g90.symm)
    have gn_b90 : n0 ≤ b90 := Nat.le_trans Z0 sz_b90
    have f90_91 := f84_85.ext E90
    have f90_92 := f84_86.ext E90
    have f90_93 := f84_87.ext E90
    have f90_94 := f84_88.ext E90
    have f90_95 := f84_89.ext E90
    have f90_96 := V84.ext E90
    have K90 : Keep h0 h90 [] := (K84).ext E90
    have Zh90 : n0 ≤ h90.size := Nat.le_trans Z0 K90.1
    have F90_scope : Fld Z h90 b90 "com/example/nearbound/nearbound/dcop/Constraint" "scope" "[I" .null := D90 (Or.inr (hw _ (List.mem_of_getElem? (i := 21) rfl))) (ty := (.array .int)) (by decide)
    have F90_sizes : Fld Z h90 b90 "com/example/nearbound/nearbound/dcop/Constraint" "sizes" "[I" .null := D90 (Or.inr (hw _ (List.mem_of_getElem? (i := 23) rfl))) (ty := (.array .int)) (by decide)
    have F90_strides : Fld Z h90 b90 "com/example/nearbound/nearbound/dcop/Constraint" "strides" "[I" .null := D90 (Or.inr (hw _ (List.mem_of_getElem? (i := 25) rfl))) (ty := (.array .int)) (by decide)
    have F90_rewards : Fld Z h90 b90 "com/example/nearbound/nearbound/dcop/Constraint" "rewards" "[D" .null := D90 (Or.inr (hw _ (List.mem_of_getElem? (i := 48) rfl))) (ty := (.array .double)) (by decide)
    have F90_costs : Fld Z h90 b90 "com/example/nearbound/nearbound/dcop/Constraint" "costs" "[D" .null := D90 (Or.inr (hw _ (List.mem_of_getElem? (i := 50) rfl))) (ty := (.array .double)) (by decide)
    refine own_back ?_ st90
    show own_Go p e below PO (T90.setTop (mkF m 83 #[.val (.int pA), .val (.int pB), .val (.int pC), .val (.int pD), .val (.int pE), .val (.int (2 : Int32)), .val (.int v6_57), .val (.ref b58), .val (.ref b59), .val (.ref b79), .unset, .unset, .unset] [(.ref b90)]))
    refine own_back ?_ (fun t k => XS.dup X90.here hx rfl (hb hby at_83) rfl rfl k)
    show own_Go p e below PO (T90.setTop (mkF m 84 #[.val (.int pA), .val (.int pB), .val (.int pC), .val (.int pD), .val (.int pE), .val (.int (2 : Int32)), .val (.int v6_57), .val (.ref b58), .val (.ref b59), .val (.ref b79), .unset, .unset, .unset] [(.ref b90), (.ref b90)]))
    refine own_back ?_ (fun t k => XS.aload X90.here hx rfl (hb hby at_84) rfl rfl k)
    show own_Go p e below PO (T90.setTop (mkF m 86 #[.val (.int pA), .val (.int pB), .val (.int pC), .val (.int pD), .val (.int pE), .val (.int (2 : Int32)), .val (.int v6_57), .val (.ref b58), .val (.ref b59), .val (.ref b79), .unset, .unset, .unset] [(.ref b58), (.ref b90), (.ref b90)]))
    refine own_back ?_ (fun t k => XS.aload X90.here hx rfl (hb hby at_86) rfl rfl k)
    show own_Go p e below PO (T90.setTop (mkF m 88 #[.val (.int pA), .val (.int pB), .val (.int pC), .val (.int pD), .val (.int pE), .val (.int (2 : Int32)), .val (.int v6_57), .val (.ref b58), .val (.ref b59), .val (.ref b79), .unset, .unset, .unset] [(.ref b59), (.ref b58), (.ref b90), (.ref b90)]))
    refine own_back ?_ (fun t k => XS.aload X90.here hx rfl (hb hby at_88) rfl rfl k)
    show own_Go p e below PO (T90.setTop (mkF m 90 #[.val (.int pA), .val (.int pB), .val (.int pC), .val (.int pD), .val (.int pE), .val (.int (2 : Int32)), .val (.int v6_57), .val (.ref b58), .val (.ref b59), .val (.ref b79), .unset, .unset, .unset] [(.ref b79), (.ref b59), (.ref b58), (.ref b90), (.ref b90)]))
    refine own_back ?_ (fun t k => XS.aconstNull X90.here hx rfl (hb hby at_90) k)
    show own_Go p e below PO (T90.setTop (mkF m 91 #[.val (.int pA), .val (.int pB), .val (.int pC), .val (.int pD), .val (.int pE), .val (.int (2 : Int32)), .val (.int v6_57), .val (.ref b58), .val (.ref b59), .val (.ref b79), .unset, .unset, .unset] [.null, (.ref b79), (.ref b59), (.ref b58), (.ref b90), (.ref b90)]))
    obtain ⟨_, _, ⟨T97, L97, k97, n97⟩, -, X97, hSn97, hgr97, ⟨Lc97, hQ97, l97, y97, z97⟩, st97⟩ := X90.specialBackS hx (y := (⟨"com/example/nearbound/nearbound/dcop/Constraint", "<init>", "([I[I[D[D)V"⟩ : MethodName)) rfl hown (mvT hZ (hw _ (List.mem_of_getElem? (i := 5) rfl))) (mvT hZ (hw _ (List.mem_of_getElem? (i := 6) rfl))) (mvT hZ (hw _ (List.mem_of_getElem? (i := 7) rfl))) (by decide) (backOfS (W := 1) (rmI_2 l Z a0 hw [] b90 b58 b59 b79 k58 k59 k79 pA pB (0 : UInt64) h90 n0 Zh90 A90 F90_scope F90_sizes F90_strides F90_rewards F90_costs f90_91 f90_92 f90_93 f90_94 f90_95 f90_96 ne_b58_b90 ne_b59_b90 ne_b79_b90 gn_b90) hZ (hw _ (List.mem_of_getElem? (i := 7) rfl)) (hw _ (List.mem_of_getElem? (i := 4) rfl)) (by decide) (by decide)) (g := (mkF m 91 #[.val (.int pA), .val (.int pB), .val (.int pC), .val (.int pD), .val (.int pE), .val (.int (2 : Int32)), .val (.int v6_57), .val (.ref b58), .val (.ref b59), .val (.ref b79), .unset, .unset, .unset] [.null, (.ref b79), (.ref b59), (.ref b58), (.ref b90), (.ref b90)])) rfl (by rw [hml]; rfl) (Steps.refl _) (a := b90) (argsL := [(.ref b58), (.ref b59), (.ref b79), .null]) (rest := [(.ref b90)]) (lenOf pd_2 rfl) rfl (by show 2 * 0 + _ ≤ _; exact Nat.le_of_eq rfl) (hb hby at_91) (fun _ _ => ⟨rfl, e90, (by decide : 4 + 6 ≤ _), (by decide : 10 + 39 ≤ _)⟩)
    dsimp only [Pt.U, Pt.locs, Pt.cells, Pt.slots] at X97 l97 y97 z97 st97 hQ97
    subst l97 y97 z97
    replace X97 : Stand p l e room_1 (s.setVm T97.vm) m #[(.int pA), (.int pB), (.int pC), (.int pD), (.int pE)] below meth c T97 _ _ _ := X97
    have hS97 : s.Since T97.vm T97.heap.size := foldS (s := s) (vm0 := s.vm) (T := T90) hS0 (by rw [e90]; exact (Nat.zero_le _)) hSn97 hgr97
    have hZ : Z.Warmed39 (s.setVm T97.vm).vm := State.Warmed39.trans (t := s.setVm s.vm) hZ hSn97.1
    have hown : (s.setVm T97.vm).vm.findClass "com/example/nearbound/nearbound/dcop/ConstraintHoldsPinLaw" = some m.cls := by rw [show (s.setVm T97.vm).vm = T97.vm from rfl, hSn97.1.alike.findClass]; exact hown
    obtain ⟨rfl, N97q, Kc97, aN, szN, FS, VN⟩ := hQ97
    have N97 := Fr.app N84 N97q
    have ne_b58_aN : b58 ≠ aN := Nat.ne_of_lt (Nat.lt_of_lt_of_le f90_91.lt szN)
    have ne_b59_aN : b59 ≠ aN := Nat.ne_of_lt (Nat.lt_of_lt_of_le f90_93.lt szN)
    have ne_b79_aN : b79 ≠ aN := Nat.ne_of_lt (Nat.lt_of_lt_of_le f90_95.lt szN)
    have ne_b90_aN : b90 ≠ aN := Nat.ne_of_lt (Nat.lt_of_lt_of_le A90.lt szN)
    have sz_aN : h0.size ≤ aN := Nat.le_trans K90.1 szN
    have gn_aN : n0 ≤ aN := Nat.le_trans Z0 sz_aN
    have f97_98 := f90_91.keep Kc97
    have f97_99 := f90_92.keep Kc97 (ninS ne_b58_b90 nin0)
    have f97_100 := f90_93.keep Kc97
    have f97_101 := f90_94.keep Kc97 (ninS ne_b59_b90 nin0)
    have f97_102 := f90_95.keep Kc97
    have f97_103 := f90_96.keep Kc97 (ninS ne_b79_b90 nin0)
    have f97_104 := A90.keep Kc97
    have K97 : Keep h0 T97.heap [] := (K90).trans Kc97 (allS (Or.inr sz_b90) all0)
    have Zh97 : n0 ≤ T97.heap.size := Nat.le_trans Z0 K97.1
    refine own_back ?_ (fun t k => st97.trans k)
    show own_Go p e below PO (T97.setTop (mkF m 94 #[.val (.int pA), .val (.int pB), .val (.int pC), .val (.int pD), .val (.int pE), .val (.int (2 : Int32)), .val (.int v6_57), .val (.ref b58), .val (.ref b59), .val (.ref b79), .unset, .unset, .unset] [(.ref b90)]))
    refine own_back ?_ (fun t k => XS.astore X97.here hx rfl (hb hby at_94) rfl rfl (l' := #[.val (.int pA), .val (.int pB), .val (.int pC), .val (.int pD), .val (.int pE), .val (.int (2 : Int32)), .val (.int v6_57), .val (.ref b58), .val (.ref b59), .val (.ref b79), .val (.ref b90), .unset, .unset]) rfl k)
    show own_Go p e below PO (T97.setTop (mkF m 96 #[.val (.int pA), .val (.int pB), .val (.int pC), .val (.int pD), .val (.int pE), .val (.int (2 : Int32)), .val (.int v6_57), .val (.ref b58), .val (.ref b59), .val (.ref b79), .val (.ref b90), .unset, .unset] []))
    refine own_back ?_ (fun t k => XS.iload X97.here hx rfl (hb hby at_96) rfl k)
    show own_Go p e below PO (T97.setTop (mkF m 98 #[.val (.int pA), .val (.int pB), .val (.int pC), .val (.int pD), .val (.int pE), .val (.int (2 : Int32)), .val (.int v6_57), .val (.ref b58), .val (.ref b59), .val (.ref b79), .val (.ref b90), .unset, .unset] [(.int v6_57)]))
    have J106 : ∀ (x106 : Int32), own_Go p e below PO (T97.setTop (mkF m 134 #[.val (.int pA), .val (.int pB), .val (.int pC), .val (.int pD), .val (.int pE), .val (.int (2 : Int32)), .val (.int v6_57), .val (.ref b58), .val (.ref b59), .val (.ref b79), .val (.ref b90), .val (.int x106), .unset] [])) := by
      intro x106
      refine own_back ?_ (fun t k => XS.iload X97.here hx rfl (hb hby at_134) rfl k)
      show own_Go p e below PO (T97.setTop (mkF m 136 #[.val (.int pA), .val (.int pB), .val (.int pC), .val (.int pD), .val (.int pE), .val (.int (2 : Int32)), .val (.int v6_57), .val (.ref b58), .val (.ref b59), .val (.ref b79), .val (.ref b90), .val (.int x106), .unset] [(.int x106)]))
      refine own_back ?_ (fun t k => XS.iloadN X97.here hx rfl (hb hby at_136) rfl k)
      show own_Go p e below PO (T97.setTop (mkF m 137 #[.val (.int pA), .val (.int pB), .val (.int pC), .val (.int pD), .val (.int pE), .val (.int (2 : Int32)), .val (.int v6_57), .val (.ref b58), .val (.ref b59), .val (.ref b79), .val (.ref b90), .val (.int x106), .unset] [(.int pA), (.int x106)]))
      by_cases hc137_107 : x106 = pA
      case pos =>
        refine own_back ?_ (fun t k => XS.icmpYes X97.here hx rfl (pc0 := 137) (pc' := 164) rfl (hb hby at_137) rfl (teq hc137_107).1 (by decide) (by decide) k)
        show own_Go p e below PO (T97.setTop (mkF m 164 #[.val (.int pA), .val (.int pB), .val (.int pC), .val (.int pD), .val (.int pE), .val (.int (2 : Int32)), .val (.int v6_57), .val (.ref b58), .val (.ref b59), .val (.ref b79), .val (.ref b90), .val (.int x106), .unset] []))
        refine own_back ?_ (fun t k => XS.iconst X97.here hx rfl (hb hby at_164) k)
        show own_Go p e below PO (T97.setTop (mkF m 165 #[.val (.int pA), .val (.int pB), .val (.int pC), .val (.int pD), .val (.int pE), .val (.int (2 : Int32)), .val (.int v6_57), .val (.ref b58), .val (.ref b59), .val (.ref b79), .val (.ref b90), .val (.int x106), .unset] [(.int (1 : Int32))]))
        refine own_back ?_ (fun t k => XS.goto X97.here hx rfl (pc0 := 165) (pc' := 169) rfl (hb hby at_165) (by decide) (by decide) k)
        show own_Go p e below PO (T97.setTop (mkF m 169 #[.val (.int pA), .val (.int pB), .val (.int pC), .val (.int pD), .val (.int pE), .val (.int (2 : Int32)), .val (.int v6_57), .val (.ref b58), .val (.ref b59), .val (.ref b79), .val (.ref b90), .val (.int x106), .unset] [(.int (1 : Int32))]))
        refine own_back ?_ (fun t k => XS.istore X97.here hx rfl (hb hby at_169) rfl (l' := #[.val (.int pA), .val (.int pB), .val (.int pC), .val (.int pD), .val (.int pE), .val (.int (2 : Int32)), .val (.int v6_57), .val (.ref b58), .val (.ref b59), .val (.ref b79), .val (.ref b90), .val (.int x106), .val (.int (1 : Int32))]) rfl k)
        show own_Go p e below PO (T97.setTop (mkF m 171 #[.val (.int pA), .val (.int pB), .val (.int pC), .val (.int pD), .val (.int pE), .val (.int (2 : Int32)), .val (.int v6_57), .val (.ref b58), .val (.ref b59), .val (.ref b79), .val (.ref b90), .val (.int x106), .val (.int (1 : Int32))] []))
        refine own_back ?_ (fun t k => XS.aload X97.here hx rfl (hb hby at_171) rfl rfl k)
        show own_Go p e below PO (T97.setTop (mkF m 173 #[.val (.int pA), .val (.int pB), .val (.int pC), .val (.int pD), .val (.int pE), .val (.int (2 : Int32)), .val (.int v6_57), .val (.ref b58), .val (.ref b59), .val (.ref b79), .val (.ref b90), .val (.int x106), .val (.int (1 : Int32))] [(.ref b90)]))
        refine own_back ?_ (fun t k => XS.iload X97.here hx rfl (hb hby at_173) rfl k)
        show own_Go p e below PO (T97.setTop (mkF m 175 #[.val (.int pA), .val (.int pB), .val (.int pC), .val (.int pD), .val (.int pE), .val (.int (2 : Int32)), .val (.int v6_57), .val (.ref b58), .val (.ref b59), .val (.ref b79), .val (.ref b90), .val (.int x106), .val (.int (1 : Int32))] [(.int x106), (.ref b90)]))
        obtain ⟨cq108, kq108, q108a, q108b, q108c⟩ := isOf hZ rfl f97_104
        obtain ⟨_, _, ⟨T108, L108, k108, n108⟩, -, X108, ⟨Lc108, hQ108, l108, y108, z108⟩, st108⟩ := X97.virtualBack hx (y := (⟨"com/example/nearbound/nearbound/dcop/Constraint", "holds", "(I)Z"⟩ : MethodName)) (z := (⟨"com/example/nearbound/nearbound/dcop/Constraint", "holds", "(I)Z"⟩ : MethodName)) hown (mvT hZ (hw _ (List.mem_of_getElem? (i := 51) rfl))) (mvT hZ (hw _ (List.mem_of_getElem? (i := 52) rfl))) (notFace_of_selects (args := #[]) (mvT hZ (hw _ (List.mem_of_getElem? (i := 54) rfl)))) (mvT hZ (hw _ (List.mem_of_getElem? (i := 54) rfl))) (mvT hZ (hw _ (List.mem_of_getElem? (i := 53) rfl))) (by decide) (backOf (W := 0) (rmH_2 l Z a0 hw [] b90 x106 aN k58 pA pB T97.heap n0 Zh97 FS VN) hZ (hw _ (List.mem_of_getElem? (i := 55) rfl)) (hw _ (List.mem_of_getElem? (i := 4) rfl)) (by decide) (by decide)) q108a q108c (g := (mkF m 175 #[.val (.int pA), .val (.int pB), .val (.int pC), .val (.int pD), .val (.int pE), .val (.int (2 : Int32)), .val (.int v6_57), .val (.ref b58), .val (.ref b59), .val (.ref b79), .val (.ref b90), .val (.int x106), .val (.int (1 : Int32))] [(.int x106), (.ref b90)])) rfl (by rw [hml]; rfl) (Steps.refl _) (argsL := [(.int x106)]) (rest := []) (lenOf pd_3 rfl) rfl (by show 2 * 0 + _ ≤ _; exact Nat.le_of_eq rfl) (hb hby at_175) (fun _ _ => ⟨rfl, rfl, (by decide : 10 + 0 ≤ _), (by decide : 49 + 0 ≤ _)⟩)
        dsimp only [Pt.U, Pt.locs, Pt.cells, Pt.slots] at X108 l108 y108 z108 st108 hQ108
        subst l108 y108 z108
        obtain ⟨rfl, N108q, e108⟩ := hQ108
        have N108 := Fr.app N97 N108q
        refine own_back ?_ (fun t k => st108.trans k)
        show own_Go p e below PO (T108.setTop (mkF m 178 #[.val (.int pA), .val (.int pB), .val (.int pC), .val (.int pD), .val (.int pE), .val (.int (2 : Int32)), .val (.int v6_57), .val (.ref b58), .val (.ref b59), .val (.ref b79), .val (.ref b90), .val (.int x106), .val (.int (1 : Int32))] [(.int (own_h2 pA pB x106))]))
        refine own_gen (A := Int32) (own_h2 pA pB x106) (fun r175_109 => own_Go p e below PO (T108.setTop (mkF m 178 #[.val (.int pA), .val (.int pB), .val (.int pC), .val (.int pD), .val (.int pE), .val (.int (2 : Int32)), .val (.int v6_57), .val (.ref b58), .val (.ref b59), .val (.ref b79), .val (.ref b90), .val (.int x106), .val (.int (1 : Int32))] [(.int r175_109)]))) ?_
        intro r175_109 h_r175_109
        show own_Go p e below PO (T108.setTop (mkF m 178 #[.val (.int pA), .val (.int pB), .val (.int pC), .val (.int pD), .val (.int pE), .val (.int (2 : Int32)), .val (.int v6_57), .val (.ref b58), .val (.ref b59), .val (.ref b79), .val (.ref b90), .val (.int x106), .val (.int (1 : Int32))] [(.int r175_109)]))
        refine own_back ?_ (fun t k => XS.iload X108.here hx rfl (hb hby at_178) rfl k)
        show own_Go p e below PO (T108.setTop (mkF m 180 #[.val (.int pA), .val (.int pB), .val (.int pC), .val (.int pD), .val (.int pE), .val (.int (2 : Int32)), .val (.int v6_57), .val (.ref b58), .val (.ref b59), .val (.ref b79), .val (.ref b90), .val (.int x106), .val (.int (1 : Int32))] [(.int (1 : Int32)), (.int r175_109)]))
        have hd180_110 : r175_109 = (1 : Int32) := by rw [h_r175_109, hc137_107]; simp [own_h1, own_h2, own_h3]
        refine own_back ?_ (fun t k => XS.icmpNo X108.here hx rfl (hb hby at_180) rfl (teq hd180_110).2 k)
        show own_Go p e below PO (T108.setTop (mkF m 183 #[.val (.int pA), .val (.int pB), .val (.int pC), .val (.int pD), .val (.int pE), .val (.int (2 : Int32)), .val (.int v6_57), .val (.ref b58), .val (.ref b59), .val (.ref b79), .val (.ref b90), .val (.int x106), .val (.int (1 : Int32))] []))
        refine own_back ?_ (fun t k => XS.iconst X108.here hx rfl (hb hby at_183) k)
        show own_Go p e below PO (T108.setTop (mkF m 184 #[.val (.int pA), .val (.int pB), .val (.int pC), .val (.int pD), .val (.int pE), .val (.int (2 : Int32)), .val (.int v6_57), .val (.ref b58), .val (.ref b59), .val (.ref b79), .val (.ref b90), .val (.int x106), .val (.int (1 : Int32))] [(.int (1 : Int32))]))
        refine own_back ?_ (fun t k => XS.goto X108.here hx rfl (pc0 := 184) (pc' := 188) rfl (hb hby at_184) (by decide) (by decide) k)
        show own_Go p e below PO (T108.setTop (mkF m 188 #[.val (.int pA), .val (.int pB), .val (.int pC), .val (.int pD), .val (.int pE), .val (.int (2 : Int32)), .val (.int v6_57), .val (.ref b58), .val (.ref b59), .val (.ref b79), .val (.ref b90), .val (.int x106), .val (.int (1 : Int32))] [(.int (1 : Int32))]))
        refine own_retNW X108 hx (t := .boolean) (rest := []) Bd.returns (by decide) (by simp) (hb hby at_188) e108 (Bd.notSynchronized) ?_ (by decide) (by decide) (s := s) (vm0 := T97.vm) hS97 (Nat.le_refl _)
        exact ⟨rfl, N108⟩
      refine own_back ?_ (fun t k => XS.icmpNo X97.here hx rfl (hb hby at_137) rfl (feq hc137_107).1 k)
      show own_Go p e below PO (T97.setTop (mkF m 140 #[.val (.int pA), .val (.int pB), .val (.int pC), .val (.int pD), .val (.int pE), .val (.int (2 : Int32)), .val (.int v6_57), .val (.ref b58), .val (.ref b59), .val (.ref b79), .val (.ref b90), .val (.int x106), .unset] []))
      refine own_back ?_ (fun t k => XS.iload X97.here hx rfl (hb hby at_140) rfl k)
      show own_Go p e below PO (T97.setTop (mkF m 142 #[.val (.int pA), .val (.int pB), .val (.int pC), .val (.int pD), .val (.int pE), .val (.int (2 : Int32)), .val (.int v6_57), .val (.ref b58), .val (.ref b59), .val (.ref b79), .val (.ref b90), .val (.int x106), .unset] [(.int (2 : Int32))]))
      refine own_back ?_ (fun t k => XS.iconst X97.here hx rfl (hb hby at_142) k)
      show own_Go p e below PO (T97.setTop (mkF m 143 #[.val (.int pA), .val (.int pB), .val (.int pC), .val (.int pD), .val (.int pE), .val (.int (2 : Int32)), .val (.int v6_57), .val (.ref b58), .val (.ref b59), .val (.ref b79), .val (.ref b90), .val (.int x106), .unset] [(.int (2 : Int32)), (.int (2 : Int32))]))
      refine own_back ?_ (fun t k => XS.icmpNo X97.here hx rfl (hb hby at_143) rfl (flt Int32.lt_irrefl).1 k)
      show own_Go p e below PO (T97.setTop (mkF m 146 #[.val (.int pA), .val (.int pB), .val (.int pC), .val (.int pD), .val (.int pE), .val (.int (2 : Int32)), .val (.int v6_57), .val (.ref b58), .val (.ref b59), .val (.ref b79), .val (.ref b90), .val (.int x106), .unset] []))
      refine own_back ?_ (fun t k => XS.iload X97.here hx rfl (hb hby at_146) rfl k)
      show own_Go p e below PO (T97.setTop (mkF m 148 #[.val (.int pA), .val (.int pB), .val (.int pC), .val (.int pD), .val (.int pE), .val (.int (2 : Int32)), .val (.int v6_57), .val (.ref b58), .val (.ref b59), .val (.ref b79), .val (.ref b90), .val (.int x106), .unset] [(.int x106)]))
      refine own_back ?_ (fun t k => XS.iloadN X97.here hx rfl (hb hby at_148) rfl k)
      show own_Go p e below PO (T97.setTop (mkF m 149 #[.val (.int pA), .val (.int pB), .val (.int pC), .val (.int pD), .val (.int pE), .val (.int (2 : Int32)), .val (.int v6_57), .val (.ref b58), .val (.ref b59), .val (.ref b79), .val (.ref b90), .val (.int x106), .unset] [(.int pB), (.int x106)]))
      by_cases hc149_111 : x106 = pB
      case pos =>
        refine own_back ?_ (fun t k => XS.icmpYes X97.here hx rfl (pc0 := 149) (pc' := 164) rfl (hb hby at_149) rfl (teq hc149_111).1 (by decide) (by decide) k)
        show own_Go p e below PO (T97.setTop (mkF m 164 #[.val (.int pA), .val (.int pB), .val (.int pC), .val (.int pD), .val (.int pE), .val (.int (2 : Int32)), .val (.int v6_57), .val (.ref b58), .val (.ref b59), .val (.ref b79), .val (.ref b90), .val (.int x106), .unset] []))
        refine own_back ?_ (fun t k => XS.iconst X97.here hx rfl (hb hby at_164) k)
        show own_Go p e below PO (T97.setTop (mkF m 165 #[.val (.int pA), .val (.int pB), .val (.int pC), .val (.int pD), .val (.int pE), .val (.int (2 : Int32)), .val (.int v6_57), .val (.ref b58), .val (.ref b59), .val (.ref b79), .val (.ref b90), .val (.int x106), .unset] [(.int (1 : Int32))]))
        refine own_back ?_ (fun t k => XS.goto X97.here hx rfl (pc0 := 165) (pc' := 169) rfl (hb hby at_165) (by decide) (by decide) k)
        show own_Go p e below PO (T97.setTop (mkF m 169 #[.val (.int pA), .val (.int pB), .val (.int pC), .val (.int pD), .val (.int pE), .val (.int (2 : Int32)), .val (.int v6_57), .val (.ref b58), .val (.ref b59), .val (.ref b79), .val (.ref b90), .val (.int x106), .unset] [(.int (1 : Int32))]))
        refine own_back ?_ (fun t k => XS.istore X97.here hx rfl (hb hby at_169) rfl (l' := #[.val (.int pA), .val (.int pB), .val (.int pC), .val (.int pD), .val (.int pE), .val (.int (2 : Int32)), .val (.int v6_57), .val (.ref b58), .val (.ref b59), .val (.ref b79), .val (.ref b90), .val (.int x106), .val (.int (1 : Int32))]) rfl k)
        show own_Go p e below PO (T97.setTop (mkF m 171 #[.val (.int pA), .val (.int pB), .val (.int pC), .val (.int pD), .val (.int pE), .val (.int (2 : Int32)), .val (.int v6_57), .val (.ref b58), .val (.ref b59), .val (.ref b79), .val (.ref b90), .val (.int x106), .val (.int (1 : Int32))] []))
        refine own_back ?_ (fun t k => XS.aload X97.here hx rfl (hb hby at_171) rfl rfl k)
        show own_Go p e below PO (T97.setTop (mkF m 173 #[.val (.int pA), .val (.int pB), .val (.int pC), .val (.int pD), .val (.int pE), .val (.int (2 : Int32)), .val (.int v6_57), .val (.ref b58), .val (.ref b59), .val (.ref b79), .val (.ref b90), .val (.int x106), .val (.int (1 : Int32))] [(.ref b90)]))
        refine own_back ?_ (fun t k => XS.iload X97.here hx rfl (hb hby at_173) rfl k)
        show own_Go p e below PO (T97.setTop (mkF m 175 #[.val (.int pA), .val (.int pB), .val (.int pC), .val (.int pD), .val (.int pE), .val (.int (2 : Int32)), .val (.int v6_57), .val (.ref b58), .val (.ref b59), .val (.ref b79), .val (.ref b90), .val (.int x106), .val (.int (1 : Int32))] [(.int x106), (.ref b90)]))
        obtain ⟨cq112, kq112, q112a, q112b, q112c⟩ := isOf hZ rfl f97_104
        obtain ⟨_, _, ⟨T112, L112, k112, n112⟩, -, X112, ⟨Lc112, hQ112, l112, y112, z112⟩, st112⟩ := X97.virtualBack hx (y := (⟨"com/example/nearbound/nearbound/dcop/Constraint", "holds", "(I)Z"⟩ : MethodName)) (z := (⟨"com/example/nearbound/nearbound/dcop/Constraint", "holds", "(I)Z"⟩ : MethodName)) hown (mvT hZ (hw _ (List.mem_of_getElem? (i := 51) rfl))) (mvT hZ (hw _ (List.mem_of_getElem? (i := 52) rfl))) (notFace_of_selects (args := #[]) (mvT hZ (hw _ (List.mem_of_getElem? (i := 54) rfl)))) (mvT hZ (hw _ (List.mem_of_getElem? (i := 54) rfl))) (mvT hZ (hw _ (List.mem_of_getElem? (i := 53) rfl))) (by decide) (backOf (W := 0) (rmH_2 l Z a0 hw [] b90 x106 aN k58 pA pB T97.heap n0 Zh97 FS VN) hZ (hw _ (List.mem_of_getElem? (i := 55) rfl)) (hw _ (List.mem_of_getElem? (i := 4) rfl)) (by decide) (by decide)) q112a q112c (g := (mkF m 175 #[.val (.int pA), .val (.int pB), .val (.int pC), .val (.int pD), .val (.int pE), .val (.int (2 : Int32)), .val (.int v6_57), .val (.ref b58), .val (.ref b59), .val (.ref b79), .val (.ref b90), .val (.int x106), .val (.int (1 : Int32))] [(.int x106), (.ref b90)])) rfl (by rw [hml]; rfl) (Steps.refl _) (argsL := [(.int x106)]) (rest := []) (lenOf pd_3 rfl) rfl (by show 2 * 0 + _ ≤ _; exact Nat.le_of_eq rfl) (hb hby at_175) (fun _ _ => ⟨rfl, rfl, (by decide : 10 + 0 ≤ _), (by decide : 49 + 0 ≤ _)⟩)
        dsimp only [Pt.U, Pt.locs, Pt.cells, Pt.slots] at X112 l112 y112 z112 st112 hQ112
        subst l112 y112 z112
        obtain ⟨rfl, N112q, e112⟩ := hQ112
        have N112 := Fr.app N97 N112q
        refine own_back ?_ (fun t k => st112.trans k)
        show own_Go p e below PO (T112.setTop (mkF m 178 #[.val (.int pA), .val (.int pB), .val (.int pC), .val (.int pD), .val (.int pE), .val (.int (2 : Int32)), .val (.int v6_57), .val (.ref b58), .val (.ref b59), .val (.ref b79), .val (.ref b90), .val (.int x106), .val (.int (1 : Int32))] [(.int (own_h2 pA pB x106))]))
        refine own_gen (A := Int32) (own_h2 pA pB x106) (fun r175_113 => own_Go p e below PO (T112.setTop (mkF m 178 #[.val (.int pA), .val (.int pB), .val (.int pC), .val (.int pD), .val (.int pE), .val (.int (2 : Int32)), .val (.int v6_57), .val (.ref b58), .val (.ref b59), .val (.ref b79), .val (.ref b90), .val (.int x106), .val (.int (1 : Int32))] [(.int r175_113)]))) ?_
        intro r175_113 h_r175_113
        show own_Go p e below PO (T112.setTop (mkF m 178 #[.val (.int pA), .val (.int pB), .val (.int pC), .val (.int pD), .val (.int pE), .val (.int (2 : Int32)), .val (.int v6_57), .val (.ref b58), .val (.ref b59), .val (.ref b79), .val (.ref b90), .val (.int x106), .val (.int (1 : Int32))] [(.int r175_113)]))
        refine own_back ?_ (fun t k => XS.iload X112.here hx rfl (hb hby at_178) rfl k)
        show own_Go p e below PO (T112.setTop (mkF m 180 #[.val (.int pA), .val (.int pB), .val (.int pC), .val (.int pD), .val (.int pE), .val (.int (2 : Int32)), .val (.int v6_57), .val (.ref b58), .val (.ref b59), .val (.ref b79), .val (.ref b90), .val (.int x106), .val (.int (1 : Int32))] [(.int (1 : Int32)), (.int r175_113)]))
        have hd180_114 : r175_113 = (1 : Int32) := by rw [h_r175_113, hc149_111]; simp [own_h1, own_h2, own_h3]
        refine own_back ?_ (fun t k => XS.icmpNo X112.here hx rfl (hb hby at_180) rfl (teq hd180_114).2 k)
        show own_Go p e below PO (T112.setTop (mkF m 183 #[.val (.int pA), .val (.int pB), .val (.int pC), .val (.int pD), .val (.int pE), .val (.int (2 : Int32)), .val (.int v6_57), .val (.ref b58), .val (.ref b59), .val (.ref b79), .val (.ref b90), .val (.int x106), .val (.int (1 : Int32))] []))
        refine own_back ?_ (fun t k => XS.iconst X112.here hx rfl (hb hby at_183) k)
        show own_Go p e below PO (T112.setTop (mkF m 184 #[.val (.int pA), .val (.int pB), .val (.int pC), .val (.int pD), .val (.int pE), .val (.int (2 : Int32)), .val (.int v6_57), .val (.ref b58), .val (.ref b59), .val (.ref b79), .val (.ref b90), .val (.int x106), .val (.int (1 : Int32))] [(.int (1 : Int32))]))
        refine own_back ?_ (fun t k => XS.goto X112.here hx rfl (pc0 := 184) (pc' := 188) rfl (hb hby at_184) (by decide) (by decide) k)
        show own_Go p e below PO (T112.setTop (mkF m 188 #[.val (.int pA), .val (.int pB), .val (.int pC), .val (.int pD), .val (.int pE), .val (.int (2 : Int32)), .val (.int v6_57), .val (.ref b58), .val (.ref b59), .val (.ref b79), .val (.ref b90), .val (.int x106), .val (.int (1 : Int32))] [(.int (1 : Int32))]))
        refine own_retNW X112 hx (t := .boolean) (rest := []) Bd.returns (by decide) (by simp) (hb hby at_188) e112 (Bd.notSynchronized) ?_ (by decide) (by decide) (s := s) (vm0 := T97.vm) hS97 (Nat.le_refl _)
        exact ⟨rfl, N112⟩
      refine own_back ?_ (fun t k => XS.icmpNo X97.here hx rfl (hb hby at_149) rfl (feq hc149_111).1 k)
      show own_Go p e below PO (T97.setTop (mkF m 152 #[.val (.int pA), .val (.int pB), .val (.int pC), .val (.int pD), .val (.int pE), .val (.int (2 : Int32)), .val (.int v6_57), .val (.ref b58), .val (.ref b59), .val (.ref b79), .val (.ref b90), .val (.int x106), .unset] []))
      refine own_back ?_ (fun t k => XS.iload X97.here hx rfl (hb hby at_152) rfl k)
      show own_Go p e below PO (T97.setTop (mkF m 154 #[.val (.int pA), .val (.int pB), .val (.int pC), .val (.int pD), .val (.int pE), .val (.int (2 : Int32)), .val (.int v6_57), .val (.ref b58), .val (.ref b59), .val (.ref b79), .val (.ref b90), .val (.int x106), .unset] [(.int (2 : Int32))]))
      refine own_back ?_ (fun t k => XS.iconst X97.here hx rfl (hb hby at_154) k)
      show own_Go p e below PO (T97.setTop (mkF m 155 #[.val (.int pA), .val (.int pB), .val (.int pC), .val (.int pD), .val (.int pE), .val (.int (2 : Int32)), .val (.int v6_57), .val (.ref b58), .val (.ref b59), .val (.ref b79), .val (.ref b90), .val (.int x106), .unset] [(.int (3 : Int32)), (.int (2 : Int32))]))
      have hd155_115 : (2 : Int32) < (3 : Int32) := (by decide)
      refine own_back ?_ (fun t k => XS.icmpYes X97.here hx rfl (pc0 := 155) (pc' := 168) rfl (hb hby at_155) rfl (tlt hd155_115).1 (by decide) (by decide) k)
      show own_Go p e below PO (T97.setTop (mkF m 168 #[.val (.int pA), .val (.int pB), .val (.int pC), .val (.int pD), .val (.int pE), .val (.int (2 : Int32)), .val (.int v6_57), .val (.ref b58), .val (.ref b59), .val (.ref b79), .val (.ref b90), .val (.int x106), .unset] []))
      refine own_back ?_ (fun t k => XS.iconst X97.here hx rfl (hb hby at_168) k)
      show own_Go p e below PO (T97.setTop (mkF m 169 #[.val (.int pA), .val (.int pB), .val (.int pC), .val (.int pD), .val (.int pE), .val (.int (2 : Int32)), .val (.int v6_57), .val (.ref b58), .val (.ref b59), .val (.ref b79), .val (.ref b90), .val (.int x106), .unset] [(.int (0 : Int32))]))
      refine own_back ?_ (fun t k => XS.istore X97.here hx rfl (hb hby at_169) rfl (l' := #[.val (.int pA), .val (.int pB), .val (.int pC), .val (.int pD), .val (.int pE), .val (.int (2 : Int32)), .val (.int v6_57), .val (.ref b58), .val (.ref b59), .val (.ref b79), .val (.ref b90), .val (.int x106), .val (.int (0 : Int32))]) rfl k)
      show own_Go p e below PO (T97.setTop (mkF m 171 #[.val (.int pA), .val (.int pB), .val (.int pC), .val (.int pD), .val (.int pE), .val (.int (2 : Int32)), .val (.int v6_57), .val (.ref b58), .val (.ref b59), .val (.ref b79), .val (.ref b90), .val (.int x106), .val (.int (0 : Int32))] []))
      refine own_back ?_ (fun t k => XS.aload X97.here hx rfl (hb hby at_171) rfl rfl k)
      show own_Go p e below PO (T97.setTop (mkF m 173 #[.val (.int pA), .val (.int pB), .val (.int pC), .val (.int pD), .val (.int pE), .val (.int (2 : Int32)), .val (.int v6_57), .val (.ref b58), .val (.ref b59), .val (.ref b79), .val (.ref b90), .val (.int x106), .val (.int (0 : Int32))] [(.ref b90)]))
      refine own_back ?_ (fun t k => XS.iload X97.here hx rfl (hb hby at_173) rfl k)
      show own_Go p e below PO (T97.setTop (mkF m 175 #[.val (.int pA), .val (.int pB), .val (.int pC), .val (.int pD), .val (.int pE), .val (.int (2 : Int32)), .val (.int v6_57), .val (.ref b58), .val (.ref b59), .val (.ref b79), .val (.ref b90), .val (.int x106), .val (.int (0 : Int32))] [(.int x106), (.ref b90)]))
      obtain ⟨cq116, kq116, q116a, q116b, q116c⟩ := isOf hZ rfl f97_104
      obtain ⟨_, _, ⟨T116, L116, k116, n116⟩, -, X116, ⟨Lc116, hQ116, l116, y116, z116⟩, st116⟩ := X97.virtualBack hx (y := (⟨"com/example/nearbound/nearbound/dcop/Constraint", "holds", "(I)Z"⟩ : MethodName)) (z := (⟨"com/example/nearbound/nearbound/dcop/Constraint", "holds", "(I)Z"⟩ : MethodName)) hown (mvT hZ (hw _ (List.mem_of_getElem? (i := 51) rfl))) (mvT hZ (hw _ (List.mem_of_getElem? (i := 52) rfl))) (notFace_of_selects (args := #[]) (mvT hZ (hw _ (List.mem_of_getElem? (i := 54) rfl)))) (mvT hZ (hw _ (List.mem_of_getElem? (i := 54) rfl))) (mvT hZ (hw _ (List.mem_of_getElem? (i := 53) rfl))) (by decide) (backOf (W := 0) (rmH_2 l Z a0 hw [] b90 x106 aN k58 pA pB T97.heap n0 Zh97 FS VN) hZ (hw _ (List.mem_of_getElem? (i := 55) rfl)) (hw _ (List.mem_of_getElem? (i := 4) rfl)) (by decide) (by decide)) q116a q116c (g := (mkF m 175 #[.val (.int pA), .val (.int pB), .val (.int pC), .val (.int pD), .val (.int pE), .val (.int (2 : Int32)), .val (.int v6_57), .val (.ref b58), .val (.ref b59), .val (.ref b79), .val (.ref b90), .val (.int x106), .val (.int (0 : Int32))] [(.int x106), (.ref b90)])) rfl (by rw [hml]; rfl) (Steps.refl _) (argsL := [(.int x106)]) (rest := []) (lenOf pd_3 rfl) rfl (by show 2 * 0 + _ ≤ _; exact Nat.le_of_eq rfl) (hb hby at_175) (fun _ _ => ⟨rfl, rfl, (by decide : 10 + 0 ≤ _), (by decide : 49 + 0 ≤ _)⟩)
      dsimp only [Pt.U, Pt.locs, Pt.cells, Pt.slots] at X116 l116 y116 z116 st116 hQ116
      subst l116 y116 z116
      obtain ⟨rfl, N116q, e116⟩ := hQ116
      have N116 := Fr.app N97 N116q
      refine own_back ?_ (fun t k => st116.trans k)
      show own_Go p e below PO (T116.setTop (mkF m 178 #[.val (.int pA), .val (.int pB), .val (.int pC), .val (.int pD), .val (.int pE), .val (.int (2 : Int32)), .val (.int v6_57), .val (.ref b58), .val (.ref b59), .val (.ref b79), .val (.ref b90), .val (.int x106), .val (.int (0 : Int32))] [(.int (own_h2 pA pB x106))]))
      refine own_gen (A := Int32) (own_h2 pA pB x106) (fun r175_117 => own_Go p e below PO (T116.setTop (mkF m 178 #[.val (.int pA), .val (.int pB), .val (.int pC), .val (.int pD), .val (.int pE), .val (.int (2 : Int32)), .val (.int v6_57), .val (.ref b58), .val (.ref b59), .val (.ref b79), .val (.ref b90), .val (.int x106), .val (.int (0 : Int32))] [(.int r175_117)]))) ?_
      intro r175_117 h_r175_117
      show own_Go p e below PO (T116.setTop (mkF m 178 #[.val (.int pA), .val (.int pB), .val (.int pC), .val (.int pD), .val (.int pE), .val (.int (2 : Int32)), .val (.int v6_57), .val (.ref b58), .val (.ref b59), .val (.ref b79), .val (.ref b90), .val (.int x106), .val (.int (0 : Int32))] [(.int r175_117)]))
      refine own_back ?_ (fun t k => XS.iload X116.here hx rfl (hb hby at_178) rfl k)
      show own_Go p e below PO (T116.setTop (mkF m 180 #[.val (.int pA), .val (.int pB), .val (.int pC), .val (.int pD), .val (.int pE), .val (.int (2 : Int32)), .val (.int v6_57), .val (.ref b58), .val (.ref b59), .val (.ref b79), .val (.ref b90), .val (.int x106), .val (.int (0 : Int32))] [(.int (0 : Int32)), (.int r175_117)]))
      have hd180_118 : r175_117 = (0 : Int32) := by rw [h_r175_117]; simp [own_h1, own_h2, own_h3, Ne.symm hc137_107, Ne.symm hc149_111]
      refine own_back ?_ (fun t k => XS.icmpNo X116.here hx rfl (hb hby at_180) rfl (teq hd180_118).2 k)
      show own_Go p e below PO (T116.setTop (mkF m 183 #[.val (.int pA), .val (.int pB), .val (.int pC), .val (.int pD), .val (.int pE), .val (.int (2 : Int32)), .val (.int v6_57), .val (.ref b58), .val (.ref b59), .val (.ref b79), .val (.ref b90), .val (.int x106), .val (.int (0 : Int32))] []))
      refine own_back ?_ (fun t k => XS.iconst X116.here hx rfl (hb hby at_183) k)
      show own_Go p e below PO (T116.setTop (mkF m 184 #[.val (.int pA), .val (.int pB), .val (.int pC), .val (.int pD), .val (.int pE), .val (.int (2 : Int32)), .val (.int v6_57), .val (.ref b58), .val (.ref b59), .val (.ref b79), .val (.ref b90), .val (.int x106), .val (.int (0 : Int32))] [(.int (1 : Int32))]))
      refine own_back ?_ (fun t k => XS.goto X116.here hx rfl (pc0 := 184) (pc' := 188) rfl (hb hby at_184) (by decide) (by decide) k)
      show own_Go p e below PO (T116.setTop (mkF m 188 #[.val (.int pA), .val (.int pB), .val (.int pC), .val (.int pD), .val (.int pE), .val (.int (2 : Int32)), .val (.int v6_57), .val (.ref b58), .val (.ref b59), .val (.ref b79), .val (.ref b90), .val (.int x106), .val (.int (0 : Int32))] [(.int (1 : Int32))]))
      refine own_retNW X116 hx (t := .boolean) (rest := []) Bd.returns (by decide) (by simp) (hb hby at_188) e116 (Bd.notSynchronized) ?_ (by decide) (by decide) (s := s) (vm0 := T97.vm) hS97 (Nat.le_refl _)
      exact ⟨rfl, N116⟩
    by_cases hc98_105 : v6_57 = (0 : Int32)
    case pos =>
      refine own_back ?_ (fun t k => XS.ifNo X97.here hx rfl (hb hby at_98) rfl ((if0 _ _).trans (teq hc98_105).2) k)
      show own_Go p e below PO (T97.setTop (mkF m 101 #[.val (.int pA), .val (.int pB), .val (.int pC), .val (.int pD), .val (.int pE), .val (.int (2 : Int32)), .val (.int v6_57), .val (.ref b58), .val (.ref b59), .val (.ref b79), .val (.ref b90), .unset, .unset] []))
      refine own_back ?_ (fun t k => XS.iloadN X97.here hx rfl (hb hby at_101) rfl k)
      show own_Go p e below PO (T97.setTop (mkF m 102 #[.val (.int pA), .val (.int pB), .val (.int pC), .val (.int pD), .val (.int pE), .val (.int (2 : Int32)), .val (.int v6_57), .val (.ref b58), .val (.ref b59), .val (.ref b79), .val (.ref b90), .unset, .unset] [(.int pA)]))
      refine own_back ?_ (fun t k => XS.istore X97.here hx rfl (hb hby at_102) rfl (l' := #[.val (.int pA), .val (.int pB), .val (.int pC), .val (.int pD), .val (.int pE), .val (.int (2 : Int32)), .val (.int v6_57), .val (.ref b58), .val (.ref b59), .val (.ref b79), .val (.ref b90), .val (.int pA), .unset]) rfl k)
      show own_Go p e below PO (T97.setTop (mkF m 104 #[.val (.int pA), .val (.int pB), .val (.int pC), .val (.int pD), .val (.int pE), .val (.int (2 : Int32)), .val (.int v6_57), .val (.ref b58), .val (.ref b59), .val (.ref b79), .val (.ref b90), .val (.int pA), .unset] []))
      refine own_back ?_ (fun t k => XS.goto X97.here hx rfl (pc0 := 104) (pc' := 134) rfl (hb hby at_104) (by decide) (by decide) k)
      show own_Go p e below PO (T97.setTop (mkF m 134 #[.val (.int pA), .val (.int pB), .val (.int pC), .val (.int pD), .val (.int pE), .val (.int (2 : Int32)), .val (.int v6_57), .val (.ref b58), .val (.ref b59), .val (.ref b79), .val (.ref b90), .val (.int pA), .unset] []))
      exact J106 _
    refine own_back ?_ (fun t k => XS.ifYes X97.here hx rfl (pc0 := 98) (pc' := 107) rfl (hb hby at_98) rfl ((if0 _ _).trans (feq hc98_105).2) (by decide) (by decide) k)
    show own_Go p e below PO (T97.setTop (mkF m 107 #[.val (.int pA), .val (.int pB), .val (.int pC), .val (.int pD), .val (.int pE), .val (.int (2 : Int32)), .val (.int v6_57), .val (.ref b58), .val (.ref b59), .val (.ref b79), .val (.ref b90), .unset, .unset] []))
    refine own_back ?_ (fun t k => XS.iload X97.here hx rfl (hb hby at_107) rfl k)
    show own_Go p e below PO (T97.setTop (mkF m 109 #[.val (.int pA), .val (.int pB), .val (.int pC), .val (.int pD), .val (.int pE), .val (.int (2 : Int32)), .val (.int v6_57), .val (.ref b58), .val (.ref b59), .val (.ref b79), .val (.ref b90), .unset, .unset] [(.int v6_57)]))
    refine own_back ?_ (fun t k => XS.iconst X97.here hx rfl (hb hby at_109) k)
    show own_Go p e below PO (T97.setTop (mkF m 110 #[.val (.int pA), .val (.int pB), .val (.int pC), .val (.int pD), .val (.int pE), .val (.int (2 : Int32)), .val (.int v6_57), .val (.ref b58), .val (.ref b59), .val (.ref b79), .val (.ref b90), .unset, .unset] [(.int (1 : Int32)), (.int v6_57)]))
    by_cases hc110_119 : v6_57 = (1 : Int32)
    case pos =>
      refine own_back ?_ (fun t k => XS.icmpNo X97.here hx rfl (hb hby at_110) rfl (teq hc110_119).2 k)
      show own_Go p e below PO (T97.setTop (mkF m 113 #[.val (.int pA), .val (.int pB), .val (.int pC), .val (.int pD), .val (.int pE), .val (.int (2 : Int32)), .val (.int v6_57), .val (.ref b58), .val (.ref b59), .val (.ref b79), .val (.ref b90), .unset, .unset] []))
      refine own_back ?_ (fun t k => XS.iloadN X97.here hx rfl (hb hby at_113) rfl k)
      show own_Go p e below PO (T97.setTop (mkF m 114 #[.val (.int pA), .val (.int pB), .val (.int pC), .val (.int pD), .val (.int pE), .val (.int (2 : Int32)), .val (.int v6_57), .val (.ref b58), .val (.ref b59), .val (.ref b79), .val (.ref b90), .unset, .unset] [(.int pB)]))
      refine own_back ?_ (fun t k => XS.istore X97.here hx rfl (hb hby at_114) rfl (l' := #[.val (.int pA), .val (.int pB), .val (.int pC), .val (.int pD), .val (.int pE), .val (.int (2 : Int32)), .val (.int v6_57), .val (.ref b58), .val (.ref b59), .val (.ref b79), .val (.ref b90), .val (.int pB), .unset]) rfl k)
      show own_Go p e below PO (T97.setTop (mkF m 116 #[.val (.int pA), .val (.int pB), .val (.int pC), .val (.int pD), .val (.int pE), .val (.int (2 : Int32)), .val (.int v6_57), .val (.ref b58), .val (.ref b59), .val (.ref b79), .val (.ref b90), .val (.int pB), .unset] []))
      refine own_back ?_ (fun t k => XS.goto X97.here hx rfl (pc0 := 116) (pc' := 134) rfl (hb hby at_116) (by decide) (by decide) k)
      show own_Go p e below PO (T97.setTop (mkF m 134 #[.val (.int pA), .val (.int pB), .val (.int pC), .val (.int pD), .val (.int pE), .val (.int (2 : Int32)), .val (.int v6_57), .val (.ref b58), .val (.ref b59), .val (.ref b79), .val (.ref b90), .val (.int pB), .unset] []))
      exact J106 _
    refine own_back ?_ (fun t k => XS.icmpYes X97.here hx rfl (pc0 := 110) (pc' := 119) rfl (hb hby at_110) rfl (feq hc110_119).2 (by decide) (by decide) k)
    show own_Go p e below PO (T97.setTop (mkF m 119 #[.val (.int pA), .val (.int pB), .val (.int pC), .val (.int pD), .val (.int pE), .val (.int (2 : Int32)), .val (.int v6_57), .val (.ref b58), .val (.ref b59), .val (.ref b79), .val (.ref b90), .unset, .unset] []))
    refine own_back ?_ (fun t k => XS.iload X97.here hx rfl (hb hby at_119) rfl k)
    show own_Go p e below PO (T97.setTop (mkF m 121 #[.val (.int pA), .val (.int pB), .val (.int pC), .val (.int pD), .val (.int pE), .val (.int (2 : Int32)), .val (.int v6_57), .val (.ref b58), .val (.ref b59), .val (.ref b79), .val (.ref b90), .unset, .unset] [(.int v6_57)]))
    refine own_back ?_ (fun t k => XS.iconst X97.here hx rfl (hb hby at_121) k)
    show own_Go p e below PO (T97.setTop (mkF m 122 #[.val (.int pA), .val (.int pB), .val (.int pC), .val (.int pD), .val (.int pE), .val (.int (2 : Int32)), .val (.int v6_57), .val (.ref b58), .val (.ref b59), .val (.ref b79), .val (.ref b90), .unset, .unset] [(.int (2 : Int32)), (.int v6_57)]))
    by_cases hc122_120 : v6_57 = (2 : Int32)
    case pos =>
      refine own_back ?_ (fun t k => XS.icmpNo X97.here hx rfl (hb hby at_122) rfl (teq hc122_120).2 k)
      show own_Go p e below PO (T97.setTop (mkF m 125 #[.val (.int pA), .val (.int pB), .val (.int pC), .val (.int pD), .val (.int pE), .val (.int (2 : Int32)), .val (.int v6_57), .val (.ref b58), .val (.ref b59), .val (.ref b79), .val (.ref b90), .unset, .unset] []))
      refine own_back ?_ (fun t k => XS.iloadN X97.here hx rfl (hb hby at_125) rfl k)
      show own_Go p e below PO (T97.setTop (mkF m 126 #[.val (.int pA), .val (.int pB), .val (.int pC), .val (.int pD), .val (.int pE), .val (.int (2 : Int32)), .val (.int v6_57), .val (.ref b58), .val (.ref b59), .val (.ref b79), .val (.ref b90), .unset, .unset] [(.int pC)]))
      refine own_back ?_ (fun t k => XS.istore X97.here hx rfl (hb hby at_126) rfl (l' := #[.val (.int pA), .val (.int pB), .val (.int pC), .val (.int pD), .val (.int pE), .val (.int (2 : Int32)), .val (.int v6_57), .val (.ref b58), .val (.ref b59), .val (.ref b79), .val (.ref b90), .val (.int pC), .unset]) rfl k)
      show own_Go p e below PO (T97.setTop (mkF m 128 #[.val (.int pA), .val (.int pB), .val (.int pC), .val (.int pD), .val (.int pE), .val (.int (2 : Int32)), .val (.int v6_57), .val (.ref b58), .val (.ref b59), .val (.ref b79), .val (.ref b90), .val (.int pC), .unset] []))
      refine own_back ?_ (fun t k => XS.goto X97.here hx rfl (pc0 := 128) (pc' := 134) rfl (hb hby at_128) (by decide) (by decide) k)
      show own_Go p e below PO (T97.setTop (mkF m 134 #[.val (.int pA), .val (.int pB), .val (.int pC), .val (.int pD), .val (.int pE), .val (.int (2 : Int32)), .val (.int v6_57), .val (.ref b58), .val (.ref b59), .val (.ref b79), .val (.ref b90), .val (.int pC), .unset] []))
      exact J106 _
    refine own_back ?_ (fun t k => XS.icmpYes X97.here hx rfl (pc0 := 122) (pc' := 131) rfl (hb hby at_122) rfl (feq hc122_120).2 (by decide) (by decide) k)
    show own_Go p e below PO (T97.setTop (mkF m 131 #[.val (.int pA), .val (.int pB), .val (.int pC), .val (.int pD), .val (.int pE), .val (.int (2 : Int32)), .val (.int v6_57), .val (.ref b58), .val (.ref b59), .val (.ref b79), .val (.ref b90), .unset, .unset] []))
    refine own_back ?_ (fun t k => XS.iloadN X97.here hx rfl (hb hby at_131) rfl k)
    show own_Go p e below PO (T97.setTop (mkF m 132 #[.val (.int pA), .val (.int pB), .val (.int pC), .val (.int pD), .val (.int pE), .val (.int (2 : Int32)), .val (.int v6_57), .val (.ref b58), .val (.ref b59), .val (.ref b79), .val (.ref b90), .unset, .unset] [(.int pD)]))
    refine own_back ?_ (fun t k => XS.istore X97.here hx rfl (hb hby at_132) rfl (l' := #[.val (.int pA), .val (.int pB), .val (.int pC), .val (.int pD), .val (.int pE), .val (.int (2 : Int32)), .val (.int v6_57), .val (.ref b58), .val (.ref b59), .val (.ref b79), .val (.ref b90), .val (.int pD), .unset]) rfl k)
    show own_Go p e below PO (T97.setTop (mkF m 134 #[.val (.int pA), .val (.int pB), .val (.int pC), .val (.int pD), .val (.int pE), .val (.int (2 : Int32)), .val (.int v6_57), .val (.ref b58), .val (.ref b59), .val (.ref b79), .val (.ref b90), .val (.int pD), .unset] []))
    exact J106 _
  · subst q2
    show own_Go p e below PO (s₁.setTop (mkF m 10 #[.val (.int pA), .val (.int pB), .val (.int pC), .val (.int pD), .val (.int pE), .val (.int (3 : Int32)), .unset, .unset, .unset, .unset, .unset, .unset, .unset] []))
    refine own_back ?_ (fun t k => XS.iload X0.here hx rfl (hb hby at_10) rfl k)
    show own_Go p e below PO (s₁.setTop (mkF m 12 #[.val (.int pA), .val (.int pB), .val (.int pC), .val (.int pD), .val (.int pE), .val (.int (3 : Int32)), .unset, .unset, .unset, .unset, .unset, .unset, .unset] [(.int pE)]))
    refine own_back ?_ (fun t k => XS.iconst X0.here hx rfl (hb hby at_12) k)
    show own_Go p e below PO (s₁.setTop (mkF m 13 #[.val (.int pA), .val (.int pB), .val (.int pC), .val (.int pD), .val (.int pE), .val (.int (3 : Int32)), .unset, .unset, .unset, .unset, .unset, .unset, .unset] [(.int (3 : Int32)), (.int pE)]))
    refine own_back ?_ (fun t k => XS.iand X0.here hx rfl (hb hby at_13) rfl k)
    show own_Go p e below PO (s₁.setTop (mkF m 14 #[.val (.int pA), .val (.int pB), .val (.int pC), .val (.int pD), .val (.int pE), .val (.int (3 : Int32)), .unset, .unset, .unset, .unset, .unset, .unset, .unset] [(.int (pE &&& (3 : Int32)))]))
    refine own_back ?_ (fun t k => XS.istore X0.here hx rfl (hb hby at_14) rfl (l' := #[.val (.int pA), .val (.int pB), .val (.int pC), .val (.int pD), .val (.int pE), .val (.int (3 : Int32)), .val (.int (pE &&& (3 : Int32))), .unset, .unset, .unset, .unset, .unset, .unset]) rfl k)
    show own_Go p e below PO (s₁.setTop (mkF m 16 #[.val (.int pA), .val (.int pB), .val (.int pC), .val (.int pD), .val (.int pE), .val (.int (3 : Int32)), .val (.int (pE &&& (3 : Int32))), .unset, .unset, .unset, .unset, .unset, .unset] []))
    refine own_gen (A := Int32) (pE &&& (3 : Int32)) (fun v6_121 => own_Go p e below PO (s₁.setTop (mkF m 16 #[.val (.int pA), .val (.int pB), .val (.int pC), .val (.int pD), .val (.int pE), .val (.int (3 : Int32)), .val (.int v6_121), .unset, .unset, .unset, .unset, .unset, .unset] []))) ?_
    intro v6_121 h_v6_121
    show own_Go p e below PO (s₁.setTop (mkF m 16 #[.val (.int pA), .val (.int pB), .val (.int pC), .val (.int pD), .val (.int pE), .val (.int (3 : Int32)), .val (.int v6_121), .unset, .unset, .unset, .unset, .unset, .unset] []))
    refine own_back ?_ (fun t k => XS.iload X0.here hx rfl (hb hby at_16) rfl k)
    show own_Go p e below PO (s₁.setTop (mkF m 18 #[.val (.int pA), .val (.int pB), .val (.int pC), .val (.int pD), .val (.int pE), .val (.int (3 : Int32)), .val (.int v6_121), .unset, .unset, .unset, .unset, .unset, .unset] [(.int (3 : Int32))]))
    obtain ⟨T122, h122, k122, X122, e122, E122, A122, Ex122, st122⟩ := newPE X0 hx hZ (hw _ (List.mem_of_getElem? (i := 0) rfl)) e0 (g := (mkF m 18 #[.val (.int pA), .val (.int pB), .val (.int pC), .val (.int pD), .val (.int pE), .val (.int (3 : Int32)), .val (.int v6_121), .unset, .unset, .unset, .unset, .unset, .unset] [(.int (3 : Int32))])) rfl (hb hby at_18) rfl (by decide) (cap := 3) (by decide) (by decide) (by decide) (by decide) (ad := "[I") (by decide)
    obtain ⟨b122, g122⟩ : ∃ z, z = h0.size := ⟨_, rfl⟩
    rw [← g122] at A122 Ex122 st122
    have sz_b122 : h0.size ≤ b122 := Nat.le_of_eq g122.symm
    have gn_b122 : n0 ≤ b122 := Nat.le_trans Z0 sz_b122
    have K122 : Keep h0 h122 [] := (Keep.refl h0 []).ext E122
    have Zh122 : n0 ≤ h122.size := Nat.le_trans Z0 K122.1
    have V122 : Arv Z h122 b122 k122 .int (3 : Int32) [(.int (0 : Int32)), (.int (0 : Int32)), (.int (0 : Int32))] (.int (0 : Int32)) := (Arv.new A122 (by decide)).pad (pad_rep [] (.int (0 : Int32)) 3)
    refine own_back ?_ st122
    show own_Go p e below PO (T122.setTop (mkF m 20 #[.val (.int pA), .val (.int pB), .val (.int pC), .val (.int pD), .val (.int pE), .val (.int (3 : Int32)), .val (.int v6_121), .unset, .unset, .unset, .unset, .unset, .unset] [(.ref b122)]))
    refine own_back ?_ (fun t k => XS.astore X122.here hx rfl (hb hby at_20) rfl rfl (l' := #[.val (.int pA), .val (.int pB), .val (.int pC), .val (.int pD), .val (.int pE), .val (.int (3 : Int32)), .val (.int v6_121), .val (.ref b122), .unset, .unset, .unset, .unset, .unset]) rfl k)
    show own_Go p e below PO (T122.setTop (mkF m 22 #[.val (.int pA), .val (.int pB), .val (.int pC), .val (.int pD), .val (.int pE), .val (.int (3 : Int32)), .val (.int v6_121), .val (.ref b122), .unset, .unset, .unset, .unset, .unset] []))
    refine own_back ?_ (fun t k => XS.iload X122.here hx rfl (hb hby at_22) rfl k)
    show own_Go p e below PO (T122.setTop (mkF m 24 #[.val (.int pA), .val (.int pB), .val (.int pC), .val (.int pD), .val (.int pE), .val (.int (3 : Int32)), .val (.int v6_121), .val (.ref b122), .unset, .unset, .unset, .unset, .unset] [(.int (3 : Int32))]))
    obtain ⟨T123, h123, k123, X123, e123, E123, A123, Ex123, st123⟩ := newPE X122 hx hZ (hw _ (List.mem_of_getElem? (i := 0) rfl)) e122 (g := (mkF m 24 #[.val (.int pA), .val (.int pB), .val (.int pC), .val (.int pD), .val (.int pE), .val (.int (3 : Int32)), .val (.int v6_121), .val (.ref b122), .unset, .unset, .unset, .unset, .unset] [(.int (3 : Int32))])) rfl (hb hby at_24) rfl (by decide) (cap := 3) (by decide) (by decide) (by decide) (by decide) (ad := "[I") (by decide)
    obtain ⟨b123, g123⟩ : ∃ z, z = h122.size := ⟨_, rfl⟩
    rw [← g123] at A123 Ex123 st123
    have ne_b122_b123 : b122 ≠ b123 := Nat.ne_of_lt (Nat.lt_of_lt_of_le Ex122.lt (Nat.le_of_eq g123.symm))
    have sz_b123 : h0.size ≤ b123 := Nat.le_trans K122.1 (Nat.le_of_eq g123.symm)
    have gn_b123 : n0 ≤ b123 := Nat.le_trans Z0 sz_b123
    have f123_124 := Ex122.ext E123
    have f123_125 := V122.ext E123
    have K123 : Keep h0 h123 [] := (K122).ext E123
    have Zh123 : n0 ≤ h123.size := Nat.le_trans Z0 K123.1
    have V123 : Arv Z h123 b123 k123 .int (3 : Int32) [(.int (0 : Int32)), (.int (0 : Int32)), (.int (0 : Int32))] (.int (0 : Int32)) := (Arv.new A123 (by decide)).pad (pad_rep [] (.int (0 : Int32)) 3)
    refine own_back ?_ st123
    show own_Go p e below PO (T123.setTop (mkF m 26 #[.val (.int pA), .val (.int pB), .val (.int pC), .val (.int pD), .val (.int pE), .val (.int (3 : Int32)), .val (.int v6_121), .val (.ref b122), .unset, .unset, .unset, .unset, .unset] [(.ref b123)]))
    refine own_back ?_ (fun t k => XS.astore X123.here hx rfl (hb hby at_26) rfl rfl (l' := #[.val (.int pA), .val (.int pB), .val (.int pC), .val (.int pD), .val (.int pE), .val (.int (3 : Int32)), .val (.int v6_121), .val (.ref b122), .val (.ref b123), .unset, .unset, .unset, .unset]) rfl k)
    show own_Go p e below PO (T123.setTop (mkF m 28 #[.val (.int pA), .val (.int pB), .val (.int pC), .val (.int pD), .val (.int pE), .val (.int (3 : Int32)), .val (.int v6_121), .val (.ref b122), .val (.ref b123), .unset, .unset, .unset, .unset] []))
    refine own_back ?_ (fun t k => XS.aload X123.here hx rfl (hb hby at_28) rfl rfl k)
    show own_Go p e below PO (T123.setTop (mkF m 30 #[.val (.int pA), .val (.int pB), .val (.int pC), .val (.int pD), .val (.int pE), .val (.int (3 : Int32)), .val (.int v6_121), .val (.ref b122), .val (.ref b123), .unset, .unset, .unset, .unset] [(.ref b122)]))
    refine own_back ?_ (fun t k => XS.iconst X123.here hx rfl (hb hby at_30) k)
    show own_Go p e below PO (T123.setTop (mkF m 31 #[.val (.int pA), .val (.int pB), .val (.int pC), .val (.int pD), .val (.int pE), .val (.int (3 : Int32)), .val (.int v6_121), .val (.ref b122), .val (.ref b123), .unset, .unset, .unset, .unset] [(.int (0 : Int32)), (.ref b122)]))
    refine own_back ?_ (fun t k => XS.iloadN X123.here hx rfl (hb hby at_31) rfl k)
    show own_Go p e below PO (T123.setTop (mkF m 32 #[.val (.int pA), .val (.int pB), .val (.int pC), .val (.int pD), .val (.int pE), .val (.int (3 : Int32)), .val (.int v6_121), .val (.ref b122), .val (.ref b123), .unset, .unset, .unset, .unset] [(.int pA), (.int (0 : Int32)), (.ref b122)]))
    obtain ⟨T126, h126, X126, e126, W126, V126, st126⟩ := own_stI X123 hx hZ e123 f123_125 (j := (0 : Int32)) ⟨by decide, by decide⟩ (i := 0) rfl (by show 0 < 3; decide) (g := (mkF m 32 #[.val (.int pA), .val (.int pB), .val (.int pC), .val (.int pD), .val (.int pE), .val (.int (3 : Int32)), .val (.int v6_121), .val (.ref b122), .val (.ref b123), .unset, .unset, .unset, .unset] [(.int pA), (.int (0 : Int32)), (.ref b122)])) rfl rfl (hb hby at_32)
    replace V126 : Arv Z h126 b122 k122 .int (3 : Int32) [(.int pA), (.int (0 : Int32)), (.int (0 : Int32))] (.int (0 : Int32)) := V126
    have f126_127 := f123_124.wr W126
    have f126_128 := Ex123.wr W126
    have f126_129 := V123.other W126 (Ne.symm ne_b122_b123)
    have K126 : Keep h0 h126 [] := (K123).wr W126 (Or.inr sz_b122)
    have N126 := Fr.snoc X126 N0 gn_b122
    have Zh126 : n0 ≤ h126.size := Nat.le_trans Z0 K126.1
    refine own_back ?_ st126
    show own_Go p e below PO (T126.setTop (mkF m 33 #[.val (.int pA), .val (.int pB), .val (.int pC), .val (.int pD), .val (.int pE), .val (.int (3 : Int32)), .val (.int v6_121), .val (.ref b122), .val (.ref b123), .unset, .unset, .unset, .unset] []))
    refine own_back ?_ (fun t k => XS.aload X126.here hx rfl (hb hby at_33) rfl rfl k)
    show own_Go p e below PO (T126.setTop (mkF m 35 #[.val (.int pA), .val (.int pB), .val (.int pC), .val (.int pD), .val (.int pE), .val (.int (3 : Int32)), .val (.int v6_121), .val (.ref b122), .val (.ref b123), .unset, .unset, .unset, .unset] [(.ref b123)]))
    refine own_back ?_ (fun t k => XS.iconst X126.here hx rfl (hb hby at_35) k)
    show own_Go p e below PO (T126.setTop (mkF m 36 #[.val (.int pA), .val (.int pB), .val (.int pC), .val (.int pD), .val (.int pE), .val (.int (3 : Int32)), .val (.int v6_121), .val (.ref b122), .val (.ref b123), .unset, .unset, .unset, .unset] [(.int (0 : Int32)), (.ref b123)]))
    refine own_back ?_ (fun t k => XS.iconst X126.here hx rfl (hb hby at_36) k)
    show own_Go p e below PO (T126.setTop (mkF m 37 #[.val (.int pA), .val (.int pB), .val (.int pC), .val (.int pD), .val (.int pE), .val (.int (3 : Int32)), .val (.int v6_121), .val (.ref b122), .val (.ref b123), .unset, .unset, .unset, .unset] [(.int (1 : Int32)), (.int (0 : Int32)), (.ref b123)]))
    obtain ⟨T130, h130, X130, e130, W130, V130, st130⟩ := own_stI X126 hx hZ e126 f126_129 (j := (0 : Int32)) ⟨by decide, by decide⟩ (i := 0) rfl (by show 0 < 3; decide) (g := (mkF m 37 #[.val (.int pA), .val (.int pB), .val (.int pC), .val (.int pD), .val (.int pE), .val (.int (3 : Int32)), .val (.int v6_121), .val (.ref b122), .val (.ref b123), .unset, .unset, .unset, .unset] [(.int (1 : Int32)), (.int (0 : Int32)), (.ref b123)])) rfl rfl (hb hby at_37)
    replace V130 : Arv Z h130 b123 k123 .int (3 : Int32) [(.int (1 : Int32)), (.int (0 : Int32)), (.int (0 : Int32))] (.int (0 : Int32)) := V130
    have f130_131 := f126_127.wr W130
    have f130_132 := V126.other W130 ne_b122_b123
    have f130_133 := f126_128.wr W130
    have K130 : Keep h0 h130 [] := (K126).wr W130 (Or.inr sz_b123)
    have N130 := Fr.snoc X130 N126 gn_b123
    have Zh130 : n0 ≤ h130.size := Nat.le_trans Z0 K130.1
    refine own_back ?_ st130
    show own_Go p e below PO (T130.setTop (mkF m 38 #[.val (.int pA), .val (.int pB), .val (.int pC), .val (.int pD), .val (.int pE), .val (.int (3 : Int32)), .val (.int v6_121), .val (.ref b122), .val (.ref b123), .unset, .unset, .unset, .unset] []))
    refine own_back ?_ (fun t k => XS.iload X130.here hx rfl (hb hby at_38) rfl k)
    show own_Go p e below PO (T130.setTop (mkF m 40 #[.val (.int pA), .val (.int pB), .val (.int pC), .val (.int pD), .val (.int pE), .val (.int (3 : Int32)), .val (.int v6_121), .val (.ref b122), .val (.ref b123), .unset, .unset, .unset, .unset] [(.int (3 : Int32))]))
    refine own_back ?_ (fun t k => XS.iconst X130.here hx rfl (hb hby at_40) k)
    show own_Go p e below PO (T130.setTop (mkF m 41 #[.val (.int pA), .val (.int pB), .val (.int pC), .val (.int pD), .val (.int pE), .val (.int (3 : Int32)), .val (.int v6_121), .val (.ref b122), .val (.ref b123), .unset, .unset, .unset, .unset] [(.int (2 : Int32)), (.int (3 : Int32))]))
    have hd41_134 : ¬ ((3 : Int32) < (2 : Int32)) := (by decide)
    refine own_back ?_ (fun t k => XS.icmpNo X130.here hx rfl (hb hby at_41) rfl (flt hd41_134).1 k)
    show own_Go p e below PO (T130.setTop (mkF m 44 #[.val (.int pA), .val (.int pB), .val (.int pC), .val (.int pD), .val (.int pE), .val (.int (3 : Int32)), .val (.int v6_121), .val (.ref b122), .val (.ref b123), .unset, .unset, .unset, .unset] []))
    refine own_back ?_ (fun t k => XS.aload X130.here hx rfl (hb hby at_44) rfl rfl k)
    show own_Go p e below PO (T130.setTop (mkF m 46 #[.val (.int pA), .val (.int pB), .val (.int pC), .val (.int pD), .val (.int pE), .val (.int (3 : Int32)), .val (.int v6_121), .val (.ref b122), .val (.ref b123), .unset, .unset, .unset, .unset] [(.ref b122)]))
    refine own_back ?_ (fun t k => XS.iconst X130.here hx rfl (hb hby at_46) k)
    show own_Go p e below PO (T130.setTop (mkF m 47 #[.val (.int pA), .val (.int pB), .val (.int pC), .val (.int pD), .val (.int pE), .val (.int (3 : Int32)), .val (.int v6_121), .val (.ref b122), .val (.ref b123), .unset, .unset, .unset, .unset] [(.int (1 : Int32)), (.ref b122)]))
    refine own_back ?_ (fun t k => XS.iloadN X130.here hx rfl (hb hby at_47) rfl k)
    show own_Go p e below PO (T130.setTop (mkF m 48 #[.val (.int pA), .val (.int pB), .val (.int pC), .val (.int pD), .val (.int pE), .val (.int (3 : Int32)), .val (.int v6_121), .val (.ref b122), .val (.ref b123), .unset, .unset, .unset, .unset] [(.int pB), (.int (1 : Int32)), (.ref b122)]))
    obtain ⟨T135, h135, X135, e135, W135, V135, st135⟩ := own_stI X130 hx hZ e130 f130_132 (j := (1 : Int32)) ⟨by decide, by decide⟩ (i := 1) rfl (by show 1 < 3; decide) (g := (mkF m 48 #[.val (.int pA), .val (.int pB), .val (.int pC), .val (.int pD), .val (.int pE), .val (.int (3 : Int32)), .val (.int v6_121), .val (.ref b122), .val (.ref b123), .unset, .unset, .unset, .unset] [(.int pB), (.int (1 : Int32)), (.ref b122)])) rfl rfl (hb hby at_48)
    replace V135 : Arv Z h135 b122 k122 .int (3 : Int32) [(.int pA), (.int pB), (.int (0 : Int32))] (.int (0 : Int32)) := V135
    have f135_136 := f130_131.wr W135
    have f135_137 := f130_133.wr W135
    have f135_138 := V130.other W135 (Ne.symm ne_b122_b123)
    have K135 : Keep h0 h135 [] := (K130).wr W135 (Or.inr sz_b122)
    have N135 := Fr.snoc X135 N130 gn_b122
    have Zh135 : n0 ≤ h135.size := Nat.le_trans Z0 K135.1
    refine own_back ?_ st135
    show own_Go p e below PO (T135.setTop (mkF m 49 #[.val (.int pA), .val (.int pB), .val (.int pC), .val (.int pD), .val (.int pE), .val (.int (3 : Int32)), .val (.int v6_121), .val (.ref b122), .val (.ref b123), .unset, .unset, .unset, .unset] []))
    refine own_back ?_ (fun t k => XS.aload X135.here hx rfl (hb hby at_49) rfl rfl k)
    show own_Go p e below PO (T135.setTop (mkF m 51 #[.val (.int pA), .val (.int pB), .val (.int pC), .val (.int pD), .val (.int pE), .val (.int (3 : Int32)), .val (.int v6_121), .val (.ref b122), .val (.ref b123), .unset, .unset, .unset, .unset] [(.ref b123)]))
    refine own_back ?_ (fun t k => XS.iconst X135.here hx rfl (hb hby at_51) k)
    show own_Go p e below PO (T135.setTop (mkF m 52 #[.val (.int pA), .val (.int pB), .val (.int pC), .val (.int pD), .val (.int pE), .val (.int (3 : Int32)), .val (.int v6_121), .val (.ref b122), .val (.ref b123), .unset, .unset, .unset, .unset] [(.int (1 : Int32)), (.ref b123)]))
    refine own_back ?_ (fun t k => XS.iconst X135.here hx rfl (hb hby at_52) k)
    show own_Go p e below PO (T135.setTop (mkF m 53 #[.val (.int pA), .val (.int pB), .val (.int pC), .val (.int pD), .val (.int pE), .val (.int (3 : Int32)), .val (.int v6_121), .val (.ref b122), .val (.ref b123), .unset, .unset, .unset, .unset] [(.int (1 : Int32)), (.int (1 : Int32)), (.ref b123)]))
    obtain ⟨T139, h139, X139, e139, W139, V139, st139⟩ := own_stI X135 hx hZ e135 f135_138 (j := (1 : Int32)) ⟨by decide, by decide⟩ (i := 1) rfl (by show 1 < 3; decide) (g := (mkF m 53 #[.val (.int pA), .val (.int pB), .val (.int pC), .val (.int pD), .val (.int pE), .val (.int (3 : Int32)), .val (.int v6_121), .val (.ref b122), .val (.ref b123), .unset, .unset, .unset, .unset] [(.int (1 : Int32)), (.int (1 : Int32)), (.ref b123)])) rfl rfl (hb hby at_53)
    replace V139 : Arv Z h139 b123 k123 .int (3 : Int32) [(.int (1 : Int32)), (.int (1 : Int32)), (.int (0 : Int32))] (.int (0 : Int32)) := V139
    have f139_140 := f135_136.wr W139
    have f139_141 := V135.other W139 ne_b122_b123
    have f139_142 := f135_137.wr W139
    have K139 : Keep h0 h139 [] := (K135).wr W139 (Or.inr sz_b123)
    have N139 := Fr.snoc X139 N135 gn_b123
    have Zh139 : n0 ≤ h139.size := Nat.le_trans Z0 K139.1
    refine own_back ?_ st139
    show own_Go p e below PO (T139.setTop (mkF m 54 #[.val (.int pA), .val (.int pB), .val (.int pC), .val (.int pD), .val (.int pE), .val (.int (3 : Int32)), .val (.int v6_121), .val (.ref b122), .val (.ref b123), .unset, .unset, .unset, .unset] []))
    refine own_back ?_ (fun t k => XS.iload X139.here hx rfl (hb hby at_54) rfl k)
    show own_Go p e below PO (T139.setTop (mkF m 56 #[.val (.int pA), .val (.int pB), .val (.int pC), .val (.int pD), .val (.int pE), .val (.int (3 : Int32)), .val (.int v6_121), .val (.ref b122), .val (.ref b123), .unset, .unset, .unset, .unset] [(.int (3 : Int32))]))
    refine own_back ?_ (fun t k => XS.iconst X139.here hx rfl (hb hby at_56) k)
    show own_Go p e below PO (T139.setTop (mkF m 57 #[.val (.int pA), .val (.int pB), .val (.int pC), .val (.int pD), .val (.int pE), .val (.int (3 : Int32)), .val (.int v6_121), .val (.ref b122), .val (.ref b123), .unset, .unset, .unset, .unset] [(.int (3 : Int32)), (.int (3 : Int32))]))
    refine own_back ?_ (fun t k => XS.icmpNo X139.here hx rfl (hb hby at_57) rfl (flt Int32.lt_irrefl).1 k)
    show own_Go p e below PO (T139.setTop (mkF m 60 #[.val (.int pA), .val (.int pB), .val (.int pC), .val (.int pD), .val (.int pE), .val (.int (3 : Int32)), .val (.int v6_121), .val (.ref b122), .val (.ref b123), .unset, .unset, .unset, .unset] []))
    refine own_back ?_ (fun t k => XS.aload X139.here hx rfl (hb hby at_60) rfl rfl k)
    show own_Go p e below PO (T139.setTop (mkF m 62 #[.val (.int pA), .val (.int pB), .val (.int pC), .val (.int pD), .val (.int pE), .val (.int (3 : Int32)), .val (.int v6_121), .val (.ref b122), .val (.ref b123), .unset, .unset, .unset, .unset] [(.ref b122)]))
    refine own_back ?_ (fun t k => XS.iconst X139.here hx rfl (hb hby at_62) k)
    show own_Go p e below PO (T139.setTop (mkF m 63 #[.val (.int pA), .val (.int pB), .val (.int pC), .val (.int pD), .val (.int pE), .val (.int (3 : Int32)), .val (.int v6_121), .val (.ref b122), .val (.ref b123), .unset, .unset, .unset, .unset] [(.int (2 : Int32)), (.ref b122)]))
    refine own_back ?_ (fun t k => XS.iloadN X139.here hx rfl (hb hby at_63) rfl k)
    show own_Go p e below PO (T139.setTop (mkF m 64 #[.val (.int pA), .val (.int pB), .val (.int pC), .val (.int pD), .val (.int pE), .val (.int (3 : Int32)), .val (.int v6_121), .val (.ref b122), .val (.ref b123), .unset, .unset, .unset, .unset] [(.int pC), (.int (2 : Int32)), (.ref b122)]))
    obtain ⟨T143, h143, X143, e143, W143, V143, st143⟩ := own_stI X139 hx hZ e139 f139_141 (j := (2 : Int32)) ⟨by decide, by decide⟩ (i := 2) rfl (by show 2 < 3; decide) (g := (mkF m 64 #[.val (.int pA), .val (.int pB), .val (.int pC), .val (.int pD), .val (.int pE), .val (.int (3 : Int32)), .val (.int v6_121), .val (.ref b122), .val (.ref b123), .unset, .unset, .unset, .unset] [(.int pC), (.int (2 : Int32)), (.ref b122)])) rfl rfl (hb hby at_64)
    replace V143 : Arv Z h143 b122 k122 .int (3 : Int32) [(.int pA), (.int pB), (.int pC)] (.int (0 : Int32)) := V143
    have f143_144 := f139_140.wr W143
    have f143_145 := f139_142.wr W143
    have f143_146 := V139.other W143 (Ne.symm ne_b122_b123)
    have K143 : Keep h0 h143 [] := (K139).wr W143 (Or.inr sz_b122)
    have N143 := Fr.snoc X143 N139 gn_b122
    have Zh143 : n0 ≤ h143.size := Nat.le_trans Z0 K143.1
    refine own_back ?_ st143
    show own_Go p e below PO (T143.setTop (mkF m 65 #[.val (.int pA), .val (.int pB), .val (.int pC), .val (.int pD), .val (.int pE), .val (.int (3 : Int32)), .val (.int v6_121), .val (.ref b122), .val (.ref b123), .unset, .unset, .unset, .unset] []))
    refine own_back ?_ (fun t k => XS.aload X143.here hx rfl (hb hby at_65) rfl rfl k)
    show own_Go p e below PO (T143.setTop (mkF m 67 #[.val (.int pA), .val (.int pB), .val (.int pC), .val (.int pD), .val (.int pE), .val (.int (3 : Int32)), .val (.int v6_121), .val (.ref b122), .val (.ref b123), .unset, .unset, .unset, .unset] [(.ref b123)]))
    refine own_back ?_ (fun t k => XS.iconst X143.here hx rfl (hb hby at_67) k)
    show own_Go p e below PO (T143.setTop (mkF m 68 #[.val (.int pA), .val (.int pB), .val (.int pC), .val (.int pD), .val (.int pE), .val (.int (3 : Int32)), .val (.int v6_121), .val (.ref b122), .val (.ref b123), .unset, .unset, .unset, .unset] [(.int (2 : Int32)), (.ref b123)]))
    refine own_back ?_ (fun t k => XS.iconst X143.here hx rfl (hb hby at_68) k)
    show own_Go p e below PO (T143.setTop (mkF m 69 #[.val (.int pA), .val (.int pB), .val (.int pC), .val (.int pD), .val (.int pE), .val (.int (3 : Int32)), .val (.int v6_121), .val (.ref b122), .val (.ref b123), .unset, .unset, .unset, .unset] [(.int (1 : Int32)), (.int (2 : Int32)), (.ref b123)]))
    obtain ⟨T147, h147, X147, e147, W147, V147, st147⟩ := own_stI X143 hx hZ e143 f143_146 (j := (2 : Int32)) ⟨by decide, by decide⟩ (i := 2) rfl (by show 2 < 3; decide) (g := (mkF m 69 #[.val (.int pA), .val (.int pB), .val (.int pC), .val (.int pD), .val (.int pE), .val (.int (3 : Int32)), .val (.int v6_121), .val (.ref b122), .val (.ref b123), .unset, .unset, .unset, .unset] [(.int (1 : Int32)), (.int (2 : Int32)), (.ref b123)])) rfl rfl (hb hby at_69)
    replace V147 : Arv Z h147 b123 k123 .int (3 : Int32) [(.int (1 : Int32)), (.int (1 : Int32)), (.int (1 : Int32))] (.int (0 : Int32)) := V147
    have f147_148 := f143_144.wr W147
    have f147_149 := V143.other W147 ne_b122_b123
    have f147_150 := f143_145.wr W147
    have K147 : Keep h0 h147 [] := (K143).wr W147 (Or.inr sz_b123)
    have N147 := Fr.snoc X147 N143 gn_b123
    have Zh147 : n0 ≤ h147.size := Nat.le_trans Z0 K147.1
    refine own_back ?_ st147
    show own_Go p e below PO (T147.setTop (mkF m 70 #[.val (.int pA), .val (.int pB), .val (.int pC), .val (.int pD), .val (.int pE), .val (.int (3 : Int32)), .val (.int v6_121), .val (.ref b122), .val (.ref b123), .unset, .unset, .unset, .unset] []))
    refine own_back ?_ (fun t k => XS.iconst X147.here hx rfl (hb hby at_70) k)
    show own_Go p e below PO (T147.setTop (mkF m 71 #[.val (.int pA), .val (.int pB), .val (.int pC), .val (.int pD), .val (.int pE), .val (.int (3 : Int32)), .val (.int v6_121), .val (.ref b122), .val (.ref b123), .unset, .unset, .unset, .unset] [(.int (1 : Int32))]))
    obtain ⟨T151, h151, k151, X151, e151, E151, A151, Ex151, st151⟩ := newPE X147 hx hZ (hw _ (List.mem_of_getElem? (i := 1) rfl)) e147 (g := (mkF m 71 #[.val (.int pA), .val (.int pB), .val (.int pC), .val (.int pD), .val (.int pE), .val (.int (3 : Int32)), .val (.int v6_121), .val (.ref b122), .val (.ref b123), .unset, .unset, .unset, .unset] [(.int (1 : Int32))])) rfl (hb hby at_71) rfl (by decide) (cap := 1) (by decide) (by decide) (by decide) (by decide) (ad := "[D") (by decide)
    obtain ⟨b151, g151⟩ : ∃ z, z = h147.size := ⟨_, rfl⟩
    rw [← g151] at A151 Ex151 st151
    have ne_b122_b151 : b122 ≠ b151 := Nat.ne_of_lt (Nat.lt_of_lt_of_le f147_148.lt (Nat.le_of_eq g151.symm))
    have ne_b123_b151 : b123 ≠ b151 := Nat.ne_of_lt (Nat.lt_of_lt_of_le f147_150.lt (Nat.le_of_eq g151.symm))
    have sz_b151 : h0.size ≤ b151 := Nat.le_trans K147.1 (Nat.le_of_eq g151.symm)
    have gn_b151 : n0 ≤ b151 := Nat.le_trans Z0 sz_b151
    have f151_152 := f147_148.ext E151
    have f151_153 := f147_149.ext E151
    have f151_154 := f147_150.ext E151
    have f151_155 := V147.ext E151
    have K151 : Keep h0 h151 [] := (K147).ext E151
    have Zh151 : n0 ≤ h151.size := Nat.le_trans Z0 K151.1
    have V151 : Arv Z h151 b151 k151 .double (1 : Int32) [(.double (0 : UInt64))] (.double (0 : UInt64)) := (Arv.new A151 (by decide)).pad (pad_rep [] (.double (0 : UInt64)) 1)
    refine own_back ?_ st151
    show own_Go p e below PO (T151.setTop (mkF m 73 #[.val (.int pA), .val (.int pB), .val (.int pC), .val (.int pD), .val (.int pE), .val (.int (3 : Int32)), .val (.int v6_121), .val (.ref b122), .val (.ref b123), .unset, .unset, .unset, .unset] [(.ref b151)]))
    refine own_back ?_ (fun t k => XS.astore X151.here hx rfl (hb hby at_73) rfl rfl (l' := #[.val (.int pA), .val (.int pB), .val (.int pC), .val (.int pD), .val (.int pE), .val (.int (3 : Int32)), .val (.int v6_121), .val (.ref b122), .val (.ref b123), .val (.ref b151), .unset, .unset, .unset]) rfl k)
    show own_Go p e below PO (T151.setTop (mkF m 75 #[.val (.int pA), .val (.int pB), .val (.int pC), .val (.int pD), .val (.int pE), .val (.int (3 : Int32)), .val (.int v6_121), .val (.ref b122), .val (.ref b123), .val (.ref b151), .unset, .unset, .unset] []))
    refine own_back ?_ (fun t k => XS.aload X151.here hx rfl (hb hby at_75) rfl rfl k)
    show own_Go p e below PO (T151.setTop (mkF m 77 #[.val (.int pA), .val (.int pB), .val (.int pC), .val (.int pD), .val (.int pE), .val (.int (3 : Int32)), .val (.int v6_121), .val (.ref b122), .val (.ref b123), .val (.ref b151), .unset, .unset, .unset] [(.ref b151)]))
    refine own_back ?_ (fun t k => XS.iconst X151.here hx rfl (hb hby at_77) k)
    show own_Go p e below PO (T151.setTop (mkF m 78 #[.val (.int pA), .val (.int pB), .val (.int pC), .val (.int pD), .val (.int pE), .val (.int (3 : Int32)), .val (.int v6_121), .val (.ref b122), .val (.ref b123), .val (.ref b151), .unset, .unset, .unset] [(.int (0 : Int32)), (.ref b151)]))
    refine own_back ?_ (fun t k => XS.dconst0 X151.here hx rfl (v := (0 : UInt64)) (hb hby at_78) (by decide +kernel) k)
    show own_Go p e below PO (T151.setTop (mkF m 79 #[.val (.int pA), .val (.int pB), .val (.int pC), .val (.int pD), .val (.int pE), .val (.int (3 : Int32)), .val (.int v6_121), .val (.ref b122), .val (.ref b123), .val (.ref b151), .unset, .unset, .unset] [(.double (0 : UInt64)), (.int (0 : Int32)), (.ref b151)]))
    obtain ⟨T156, h156, X156, e156, W156, V156, st156⟩ := own_stD X151 hx hZ e151 V151 (j := (0 : Int32)) ⟨by decide, by decide⟩ (i := 0) rfl (by show 0 < 1; decide) (g := (mkF m 79 #[.val (.int pA), .val (.int pB), .val (.int pC), .val (.int pD), .val (.int pE), .val (.int (3 : Int32)), .val (.int v6_121), .val (.ref b122), .val (.ref b123), .val (.ref b151), .unset, .unset, .unset] [(.double (0 : UInt64)), (.int (0 : Int32)), (.ref b151)])) rfl rfl (hb hby at_79)
    replace V156 : Arv Z h156 b151 k151 .double (1 : Int32) [(.double (0 : UInt64))] (.double (0 : UInt64)) := V156
    have f156_157 := f151_152.wr W156
    have f156_158 := f151_153.other W156 ne_b122_b151
    have f156_159 := f151_154.wr W156
    have f156_160 := f151_155.other W156 ne_b123_b151
    have f156_161 := Ex151.wr W156
    have K156 : Keep h0 h156 [] := (K151).wr W156 (Or.inr sz_b151)
    have N156 := Fr.snoc X156 N147 gn_b151
    have Zh156 : n0 ≤ h156.size := Nat.le_trans Z0 K156.1
    refine own_back ?_ st156
    show own_Go p e below PO (T156.setTop (mkF m 80 #[.val (.int pA), .val (.int pB), .val (.int pC), .val (.int pD), .val (.int pE), .val (.int (3 : Int32)), .val (.int v6_121), .val (.ref b122), .val (.ref b123), .val (.ref b151), .unset, .unset, .unset] []))
    obtain ⟨T162, h162, X162, e162, E162, A162, D162, -, st162⟩ := newO X156 hx hZ hown (hw _ (List.mem_of_getElem? (i := 2) rfl)) (hw _ (List.mem_of_getElem? (i := 3) rfl)) (hw _ (List.mem_of_getElem? (i := 4) rfl)) e156 (g := (mkF m 80 #[.val (.int pA), .val (.int pB), .val (.int pC), .val (.int pD), .val (.int pE), .val (.int (3 : Int32)), .val (.int v6_121), .val (.ref b122), .val (.ref b123), .val (.ref b151), .unset, .unset, .unset] [])) rfl (hb hby at_80) (by decide) (by decide)
    obtain ⟨b162, g162⟩ : ∃ z, z = h156.size := ⟨_, rfl⟩
    rw [← g162] at A162 D162 st162
    have ne_b122_b162 : b122 ≠ b162 := Nat.ne_of_lt (Nat.lt_of_lt_of_le f156_157.lt (Nat.le_of_eq g162.symm))
    have ne_b123_b162 : b123 ≠ b162 := Nat.ne_of_lt (Nat.lt_of_lt_of_le f156_159.lt (Nat.le_of_eq g162.symm))
    have ne_b151_b162 : b151 ≠ b162 := Nat.ne_of_lt (Nat.lt_of_lt_of_le f156_161.lt (Nat.le_of_eq g162.symm))
    have sz_b162 : h0.size ≤ b162 := Nat.le_trans K156.1 (Nat.le_of_eq g162.symm)
    have gn_b162 : n0 ≤ b162 := Nat.le_trans Z0 sz_b162
    have f162_163 := f156_157.ext E162
    have f162_164 := f156_158.ext E162
    have f162_165 := f156_159.ext E162
    have f162_166 := f156_160.ext E162
    have f162_167 := f156_161.ext E162
    have f162_168 := V156.ext E162
    have K162 : Keep h0 h162 [] := (K156).ext E162
    have Zh162 : n0 ≤ h162.size := Nat.le_trans Z0 K162.1
    have F162_scope : Fld Z h162 b162 "com/example/nearbound/nearbound/dcop/Constraint" "scope" "[I" .null := D162 (Or.inr (hw _ (List.mem_of_getElem? (i := 21) rfl))) (ty := (.array .int)) (by decide)
    have F162_sizes : Fld Z h162 b162 "com/example/nearbound/nearbound/dcop/Constraint" "sizes" "[I" .null := D162 (Or.inr (hw _ (List.mem_of_getElem? (i := 23) rfl))) (ty := (.array .int)) (by decide)
    have F162_strides : Fld Z h162 b162 "com/example/nearbound/nearbound/dcop/Constraint" "strides" "[I" .null := D162 (Or.inr (hw _ (List.mem_of_getElem? (i := 25) rfl))) (ty := (.array .int)) (by decide)
    have F162_rewards : Fld Z h162 b162 "com/example/nearbound/nearbound/dcop/Constraint" "rewards" "[D" .null := D162 (Or.inr (hw _ (List.mem_of_getElem? (i := 48) rfl))) (ty := (.array .double)) (by decide)
    have F162_costs : Fld Z h162 b162 "com/example/nearbound/nearbound/dcop/Constraint" "costs" "[D" .null := D162 (Or.inr (hw _ (List.mem_of_getElem? (i := 50) rfl))) (ty := (.array .double)) (by decide)
    refine own_back ?_ st162
    show own_Go p e below PO (T162.setTop (mkF m 83 #[.val (.int pA), .val (.int pB), .val (.int pC), .val (.int pD), .val (.int pE), .val (.int (3 : Int32)), .val (.int v6_121), .val (.ref b122), .val (.ref b123), .val (.ref b151), .unset, .unset, .unset] [(.ref b162)]))
    refine own_back ?_ (fun t k => XS.dup X162.here hx rfl (hb hby at_83) rfl rfl k)
    show own_Go p e below PO (T162.setTop (mkF m 84 #[.val (.int pA), .val (.int pB), .val (.int pC), .val (.int pD), .val (.int pE), .val (.int (3 : Int32)), .val (.int v6_121), .val (.ref b122), .val (.ref b123), .val (.ref b151), .unset, .unset, .unset] [(.ref b162), (.ref b162)]))
    refine own_back ?_ (fun t k => XS.aload X162.here hx rfl (hb hby at_84) rfl rfl k)
    show own_Go p e below PO (T162.setTop (mkF m 86 #[.val (.int pA), .val (.int pB), .val (.int pC), .val (.int pD), .val (.int pE), .val (.int (3 : Int32)), .val (.int v6_121), .val (.ref b122), .val (.ref b123), .val (.ref b151), .unset, .unset, .unset] [(.ref b122), (.ref b162), (.ref b162)]))
    refine own_back ?_ (fun t k => XS.aload X162.here hx rfl (hb hby at_86) rfl rfl k)
    show own_Go p e below PO (T162.setTop (mkF m 88 #[.val (.int pA), .val (.int pB), .val (.int pC), .val (.int pD), .val (.int pE), .val (.int (3 : Int32)), .val (.int v6_121), .val (.ref b122), .val (.ref b123), .val (.ref b151), .unset, .unset, .unset] [(.ref b123), (.ref b122), (.ref b162), (.ref b162)]))
    refine own_back ?_ (fun t k => XS.aload X162.here hx rfl (hb hby at_88) rfl rfl k)
    show own_Go p e below PO (T162.setTop (mkF m 90 #[.val (.int pA), .val (.int pB), .val (.int pC), .val (.int pD), .val (.int pE), .val (.int (3 : Int32)), .val (.int v6_121), .val (.ref b122), .val (.ref b123), .val (.ref b151), .unset, .unset, .unset] [(.ref b151), (.ref b123), (.ref b122), (.ref b162), (.ref b162)]))
    refine own_back ?_ (fun t k => XS.aconstNull X162.here hx rfl (hb hby at_90) k)
    show own_Go p e below PO (T162.setTop (mkF m 91 #[.val (.int pA), .val (.int pB), .val (.int pC), .val (.int pD), .val (.int pE), .val (.int (3 : Int32)), .val (.int v6_121), .val (.ref b122), .val (.ref b123), .val (.ref b151), .unset, .unset, .unset] [.null, (.ref b151), (.ref b123), (.ref b122), (.ref b162), (.ref b162)]))
    obtain ⟨_, _, ⟨T169, L169, k169, n169⟩, -, X169, hSn169, hgr169, ⟨Lc169, hQ169, l169, y169, z169⟩, st169⟩ := X162.specialBackS hx (y := (⟨"com/example/nearbound/nearbound/dcop/Constraint", "<init>", "([I[I[D[D)V"⟩ : MethodName)) rfl hown (mvT hZ (hw _ (List.mem_of_getElem? (i := 5) rfl))) (mvT hZ (hw _ (List.mem_of_getElem? (i := 6) rfl))) (mvT hZ (hw _ (List.mem_of_getElem? (i := 7) rfl))) (by decide) (backOfS (W := 1) (rmI_3 l Z a0 hw [] b162 b122 b123 b151 k122 k123 k151 pA pB pC (0 : UInt64) h162 n0 Zh162 A162 F162_scope F162_sizes F162_strides F162_rewards F162_costs f162_163 f162_164 f162_165 f162_166 f162_167 f162_168 ne_b122_b162 ne_b123_b162 ne_b151_b162 gn_b162) hZ (hw _ (List.mem_of_getElem? (i := 7) rfl)) (hw _ (List.mem_of_getElem? (i := 4) rfl)) (by decide) (by decide)) (g := (mkF m 91 #[.val (.int pA), .val (.int pB), .val (.int pC), .val (.int pD), .val (.int pE), .val (.int (3 : Int32)), .val (.int v6_121), .val (.ref b122), .val (.ref b123), .val (.ref b151), .unset, .unset, .unset] [.null, (.ref b151), (.ref b123), (.ref b122), (.ref b162), (.ref b162)])) rfl (by rw [hml]; rfl) (Steps.refl _) (a := b162) (argsL := [(.ref b122), (.ref b123), (.ref b151), .null]) (rest := [(.ref b162)]) (lenOf pd_2 rfl) rfl (by show 2 * 0 + _ ≤ _; exact Nat.le_of_eq rfl) (hb hby at_91) (fun _ _ => ⟨rfl, e162, (by decide : 4 + 6 ≤ _), (by decide : 12 + 42 ≤ _)⟩)
    dsimp only [Pt.U, Pt.locs, Pt.cells, Pt.slots] at X169 l169 y169 z169 st169 hQ169
    subst l169 y169 z169
    replace X169 : Stand p l e room_1 (s.setVm T169.vm) m #[(.int pA), (.int pB), (.int pC), (.int pD), (.int pE)] below meth c T169 _ _ _ := X169
    have hS169 : s.Since T169.vm T169.heap.size := foldS (s := s) (vm0 := s.vm) (T := T162) hS0 (by rw [e162]; exact (Nat.zero_le _)) hSn169 hgr169
    have hZ : Z.Warmed39 (s.setVm T169.vm).vm := State.Warmed39.trans (t := s.setVm s.vm) hZ hSn169.1
    have hown : (s.setVm T169.vm).vm.findClass "com/example/nearbound/nearbound/dcop/ConstraintHoldsPinLaw" = some m.cls := by rw [show (s.setVm T169.vm).vm = T169.vm from rfl, hSn169.1.alike.findClass]; exact hown
    obtain ⟨rfl, N169q, Kc169, aN, szN, FS, VN⟩ := hQ169
    have N169 := Fr.app N156 N169q
    have ne_b122_aN : b122 ≠ aN := Nat.ne_of_lt (Nat.lt_of_lt_of_le f162_163.lt szN)
    have ne_b123_aN : b123 ≠ aN := Nat.ne_of_lt (Nat.lt_of_lt_of_le f162_165.lt szN)
    have ne_b151_aN : b151 ≠ aN := Nat.ne_of_lt (Nat.lt_of_lt_of_le f162_167.lt szN)
    have ne_b162_aN : b162 ≠ aN := Nat.ne_of_lt (Nat.lt_of_lt_of_le A162.lt szN)
    have sz_aN : h0.size ≤ aN := Nat.le_trans K162.1 szN
    have gn_aN : n0 ≤ aN := Nat.le_trans Z0 sz_aN
    have f169_170 := f162_163.keep Kc169
    have f169_171 := f162_164.keep Kc169 (ninS ne_b122_b162 nin0)
    have f169_172 := f162_165.keep Kc169
    have f169_173 := f162_166.keep Kc169 (ninS ne_b123_b162 nin0)
    have f169_174 := f162_167.keep Kc169
    have f169_175 := f162_168.keep Kc169 (ninS ne_b151_b162 nin0)
    have f169_176 := A162.keep Kc169
    have K169 : Keep h0 T169.heap [] := (K162).trans Kc169 (allS (Or.inr sz_b162) all0)
    have Zh169 : n0 ≤ T169.heap.size := Nat.le_trans Z0 K169.1
    refine own_back ?_ (fun t k => st169.trans k)
    show own_Go p e below PO (T169.setTop (mkF m 94 #[.val (.int pA), .val (.int pB), .val (.int pC), .val (.int pD), .val (.int pE), .val (.int (3 : Int32)), .val (.int v6_121), .val (.ref b122), .val (.ref b123), .val (.ref b151), .unset, .unset, .unset] [(.ref b162)]))
    refine own_back ?_ (fun t k => XS.astore X169.here hx rfl (hb hby at_94) rfl rfl (l' := #[.val (.int pA), .val (.int pB), .val (.int pC), .val (.int pD), .val (.int pE), .val (.int (3 : Int32)), .val (.int v6_121), .val (.ref b122), .val (.ref b123), .val (.ref b151), .val (.ref b162), .unset, .unset]) rfl k)
    show own_Go p e below PO (T169.setTop (mkF m 96 #[.val (.int pA), .val (.int pB), .val (.int pC), .val (.int pD), .val (.int pE), .val (.int (3 : Int32)), .val (.int v6_121), .val (.ref b122), .val (.ref b123), .val (.ref b151), .val (.ref b162), .unset, .unset] []))
    refine own_back ?_ (fun t k => XS.iload X169.here hx rfl (hb hby at_96) rfl k)
    show own_Go p e below PO (T169.setTop (mkF m 98 #[.val (.int pA), .val (.int pB), .val (.int pC), .val (.int pD), .val (.int pE), .val (.int (3 : Int32)), .val (.int v6_121), .val (.ref b122), .val (.ref b123), .val (.ref b151), .val (.ref b162), .unset, .unset] [(.int v6_121)]))
    have J178 : ∀ (x178 : Int32), own_Go p e below PO (T169.setTop (mkF m 134 #[.val (.int pA), .val (.int pB), .val (.int pC), .val (.int pD), .val (.int pE), .val (.int (3 : Int32)), .val (.int v6_121), .val (.ref b122), .val (.ref b123), .val (.ref b151), .val (.ref b162), .val (.int x178), .unset] [])) := by
      intro x178
      refine own_back ?_ (fun t k => XS.iload X169.here hx rfl (hb hby at_134) rfl k)
      show own_Go p e below PO (T169.setTop (mkF m 136 #[.val (.int pA), .val (.int pB), .val (.int pC), .val (.int pD), .val (.int pE), .val (.int (3 : Int32)), .val (.int v6_121), .val (.ref b122), .val (.ref b123), .val (.ref b151), .val (.ref b162), .val (.int x178), .unset] [(.int x178)]))
      refine own_back ?_ (fun t k => XS.iloadN X169.here hx rfl (hb hby at_136) rfl k)
      show own_Go p e below PO (T169.setTop (mkF m 137 #[.val (.int pA), .val (.int pB), .val (.int pC), .val (.int pD), .val (.int pE), .val (.int (3 : Int32)), .val (.int v6_121), .val (.ref b122), .val (.ref b123), .val (.ref b151), .val (.ref b162), .val (.int x178), .unset] [(.int pA), (.int x178)]))
      by_cases hc137_179 : x178 = pA
      case pos =>
        refine own_back ?_ (fun t k => XS.icmpYes X169.here hx rfl (pc0 := 137) (pc' := 164) rfl (hb hby at_137) rfl (teq hc137_179).1 (by decide) (by decide) k)
        show own_Go p e below PO (T169.setTop (mkF m 164 #[.val (.int pA), .val (.int pB), .val (.int pC), .val (.int pD), .val (.int pE), .val (.int (3 : Int32)), .val (.int v6_121), .val (.ref b122), .val (.ref b123), .val (.ref b151), .val (.ref b162), .val (.int x178), .unset] []))
        refine own_back ?_ (fun t k => XS.iconst X169.here hx rfl (hb hby at_164) k)
        show own_Go p e below PO (T169.setTop (mkF m 165 #[.val (.int pA), .val (.int pB), .val (.int pC), .val (.int pD), .val (.int pE), .val (.int (3 : Int32)), .val (.int v6_121), .val (.ref b122), .val (.ref b123), .val (.ref b151), .val (.ref b162), .val (.int x178), .unset] [(.int (1 : Int32))]))
        refine own_back ?_ (fun t k => XS.goto X169.here hx rfl (pc0 := 165) (pc' := 169) rfl (hb hby at_165) (by decide) (by decide) k)
        show own_Go p e below PO (T169.setTop (mkF m 169 #[.val (.int pA), .val (.int pB), .val (.int pC), .val (.int pD), .val (.int pE), .val (.int (3 : Int32)), .val (.int v6_121), .val (.ref b122), .val (.ref b123), .val (.ref b151), .val (.ref b162), .val (.int x178), .unset] [(.int (1 : Int32))]))
        refine own_back ?_ (fun t k => XS.istore X169.here hx rfl (hb hby at_169) rfl (l' := #[.val (.int pA), .val (.int pB), .val (.int pC), .val (.int pD), .val (.int pE), .val (.int (3 : Int32)), .val (.int v6_121), .val (.ref b122), .val (.ref b123), .val (.ref b151), .val (.ref b162), .val (.int x178), .val (.int (1 : Int32))]) rfl k)
        show own_Go p e below PO (T169.setTop (mkF m 171 #[.val (.int pA), .val (.int pB), .val (.int pC), .val (.int pD), .val (.int pE), .val (.int (3 : Int32)), .val (.int v6_121), .val (.ref b122), .val (.ref b123), .val (.ref b151), .val (.ref b162), .val (.int x178), .val (.int (1 : Int32))] []))
        refine own_back ?_ (fun t k => XS.aload X169.here hx rfl (hb hby at_171) rfl rfl k)
        show own_Go p e below PO (T169.setTop (mkF m 173 #[.val (.int pA), .val (.int pB), .val (.int pC), .val (.int pD), .val (.int pE), .val (.int (3 : Int32)), .val (.int v6_121), .val (.ref b122), .val (.ref b123), .val (.ref b151), .val (.ref b162), .val (.int x178), .val (.int (1 : Int32))] [(.ref b162)]))
        refine own_back ?_ (fun t k => XS.iload X169.here hx rfl (hb hby at_173) rfl k)
        show own_Go p e below PO (T169.setTop (mkF m 175 #[.val (.int pA), .val (.int pB), .val (.int pC), .val (.int pD), .val (.int pE), .val (.int (3 : Int32)), .val (.int v6_121), .val (.ref b122), .val (.ref b123), .val (.ref b151), .val (.ref b162), .val (.int x178), .val (.int (1 : Int32))] [(.int x178), (.ref b162)]))
        obtain ⟨cq180, kq180, q180a, q180b, q180c⟩ := isOf hZ rfl f169_176
        obtain ⟨_, _, ⟨T180, L180, k180, n180⟩, -, X180, ⟨Lc180, hQ180, l180, y180, z180⟩, st180⟩ := X169.virtualBack hx (y := (⟨"com/example/nearbound/nearbound/dcop/Constraint", "holds", "(I)Z"⟩ : MethodName)) (z := (⟨"com/example/nearbound/nearbound/dcop/Constraint", "holds", "(I)Z"⟩ : MethodName)) hown (mvT hZ (hw _ (List.mem_of_getElem? (i := 51) rfl))) (mvT hZ (hw _ (List.mem_of_getElem? (i := 52) rfl))) (notFace_of_selects (args := #[]) (mvT hZ (hw _ (List.mem_of_getElem? (i := 54) rfl)))) (mvT hZ (hw _ (List.mem_of_getElem? (i := 54) rfl))) (mvT hZ (hw _ (List.mem_of_getElem? (i := 53) rfl))) (by decide) (backOf (W := 0) (rmH_3 l Z a0 hw [] b162 x178 aN k122 pA pB pC T169.heap n0 Zh169 FS VN) hZ (hw _ (List.mem_of_getElem? (i := 55) rfl)) (hw _ (List.mem_of_getElem? (i := 4) rfl)) (by decide) (by decide)) q180a q180c (g := (mkF m 175 #[.val (.int pA), .val (.int pB), .val (.int pC), .val (.int pD), .val (.int pE), .val (.int (3 : Int32)), .val (.int v6_121), .val (.ref b122), .val (.ref b123), .val (.ref b151), .val (.ref b162), .val (.int x178), .val (.int (1 : Int32))] [(.int x178), (.ref b162)])) rfl (by rw [hml]; rfl) (Steps.refl _) (argsL := [(.int x178)]) (rest := []) (lenOf pd_3 rfl) rfl (by show 2 * 0 + _ ≤ _; exact Nat.le_of_eq rfl) (hb hby at_175) (fun _ _ => ⟨rfl, rfl, (by decide : 10 + 0 ≤ _), (by decide : 54 + 0 ≤ _)⟩)
        dsimp only [Pt.U, Pt.locs, Pt.cells, Pt.slots] at X180 l180 y180 z180 st180 hQ180
        subst l180 y180 z180
        obtain ⟨rfl, N180q, e180⟩ := hQ180
        have N180 := Fr.app N169 N180q
        refine own_back ?_ (fun t k => st180.trans k)
        show own_Go p e below PO (T180.setTop (mkF m 178 #[.val (.int pA), .val (.int pB), .val (.int pC), .val (.int pD), .val (.int pE), .val (.int (3 : Int32)), .val (.int v6_121), .val (.ref b122), .val (.ref b123), .val (.ref b151), .val (.ref b162), .val (.int x178), .val (.int (1 : Int32))] [(.int (own_h3 pA pB pC x178))]))
        refine own_gen (A := Int32) (own_h3 pA pB pC x178) (fun r175_181 => own_Go p e below PO (T180.setTop (mkF m 178 #[.val (.int pA), .val (.int pB), .val (.int pC), .val (.int pD), .val (.int pE), .val (.int (3 : Int32)), .val (.int v6_121), .val (.ref b122), .val (.ref b123), .val (.ref b151), .val (.ref b162), .val (.int x178), .val (.int (1 : Int32))] [(.int r175_181)]))) ?_
        intro r175_181 h_r175_181
        show own_Go p e below PO (T180.setTop (mkF m 178 #[.val (.int pA), .val (.int pB), .val (.int pC), .val (.int pD), .val (.int pE), .val (.int (3 : Int32)), .val (.int v6_121), .val (.ref b122), .val (.ref b123), .val (.ref b151), .val (.ref b162), .val (.int x178), .val (.int (1 : Int32))] [(.int r175_181)]))
        refine own_back ?_ (fun t k => XS.iload X180.here hx rfl (hb hby at_178) rfl k)
        show own_Go p e below PO (T180.setTop (mkF m 180 #[.val (.int pA), .val (.int pB), .val (.int pC), .val (.int pD), .val (.int pE), .val (.int (3 : Int32)), .val (.int v6_121), .val (.ref b122), .val (.ref b123), .val (.ref b151), .val (.ref b162), .val (.int x178), .val (.int (1 : Int32))] [(.int (1 : Int32)), (.int r175_181)]))
        have hd180_182 : r175_181 = (1 : Int32) := by rw [h_r175_181, hc137_179]; simp [own_h1, own_h2, own_h3]
        refine own_back ?_ (fun t k => XS.icmpNo X180.here hx rfl (hb hby at_180) rfl (teq hd180_182).2 k)
        show own_Go p e below PO (T180.setTop (mkF m 183 #[.val (.int pA), .val (.int pB), .val (.int pC), .val (.int pD), .val (.int pE), .val (.int (3 : Int32)), .val (.int v6_121), .val (.ref b122), .val (.ref b123), .val (.ref b151), .val (.ref b162), .val (.int x178), .val (.int (1 : Int32))] []))
        refine own_back ?_ (fun t k => XS.iconst X180.here hx rfl (hb hby at_183) k)
        show own_Go p e below PO (T180.setTop (mkF m 184 #[.val (.int pA), .val (.int pB), .val (.int pC), .val (.int pD), .val (.int pE), .val (.int (3 : Int32)), .val (.int v6_121), .val (.ref b122), .val (.ref b123), .val (.ref b151), .val (.ref b162), .val (.int x178), .val (.int (1 : Int32))] [(.int (1 : Int32))]))
        refine own_back ?_ (fun t k => XS.goto X180.here hx rfl (pc0 := 184) (pc' := 188) rfl (hb hby at_184) (by decide) (by decide) k)
        show own_Go p e below PO (T180.setTop (mkF m 188 #[.val (.int pA), .val (.int pB), .val (.int pC), .val (.int pD), .val (.int pE), .val (.int (3 : Int32)), .val (.int v6_121), .val (.ref b122), .val (.ref b123), .val (.ref b151), .val (.ref b162), .val (.int x178), .val (.int (1 : Int32))] [(.int (1 : Int32))]))
        refine own_retNW X180 hx (t := .boolean) (rest := []) Bd.returns (by decide) (by simp) (hb hby at_188) e180 (Bd.notSynchronized) ?_ (by decide) (by decide) (s := s) (vm0 := T169.vm) hS169 (Nat.le_refl _)
        exact ⟨rfl, N180⟩
      refine own_back ?_ (fun t k => XS.icmpNo X169.here hx rfl (hb hby at_137) rfl (feq hc137_179).1 k)
      show own_Go p e below PO (T169.setTop (mkF m 140 #[.val (.int pA), .val (.int pB), .val (.int pC), .val (.int pD), .val (.int pE), .val (.int (3 : Int32)), .val (.int v6_121), .val (.ref b122), .val (.ref b123), .val (.ref b151), .val (.ref b162), .val (.int x178), .unset] []))
      refine own_back ?_ (fun t k => XS.iload X169.here hx rfl (hb hby at_140) rfl k)
      show own_Go p e below PO (T169.setTop (mkF m 142 #[.val (.int pA), .val (.int pB), .val (.int pC), .val (.int pD), .val (.int pE), .val (.int (3 : Int32)), .val (.int v6_121), .val (.ref b122), .val (.ref b123), .val (.ref b151), .val (.ref b162), .val (.int x178), .unset] [(.int (3 : Int32))]))
      refine own_back ?_ (fun t k => XS.iconst X169.here hx rfl (hb hby at_142) k)
      show own_Go p e below PO (T169.setTop (mkF m 143 #[.val (.int pA), .val (.int pB), .val (.int pC), .val (.int pD), .val (.int pE), .val (.int (3 : Int32)), .val (.int v6_121), .val (.ref b122), .val (.ref b123), .val (.ref b151), .val (.ref b162), .val (.int x178), .unset] [(.int (2 : Int32)), (.int (3 : Int32))]))
      have hd143_183 : ¬ ((3 : Int32) < (2 : Int32)) := (by decide)
      refine own_back ?_ (fun t k => XS.icmpNo X169.here hx rfl (hb hby at_143) rfl (flt hd143_183).1 k)
      show own_Go p e below PO (T169.setTop (mkF m 146 #[.val (.int pA), .val (.int pB), .val (.int pC), .val (.int pD), .val (.int pE), .val (.int (3 : Int32)), .val (.int v6_121), .val (.ref b122), .val (.ref b123), .val (.ref b151), .val (.ref b162), .val (.int x178), .unset] []))
      refine own_back ?_ (fun t k => XS.iload X169.here hx rfl (hb hby at_146) rfl k)
      show own_Go p e below PO (T169.setTop (mkF m 148 #[.val (.int pA), .val (.int pB), .val (.int pC), .val (.int pD), .val (.int pE), .val (.int (3 : Int32)), .val (.int v6_121), .val (.ref b122), .val (.ref b123), .val (.ref b151), .val (.ref b162), .val (.int x178), .unset] [(.int x178)]))
      refine own_back ?_ (fun t k => XS.iloadN X169.here hx rfl (hb hby at_148) rfl k)
      show own_Go p e below PO (T169.setTop (mkF m 149 #[.val (.int pA), .val (.int pB), .val (.int pC), .val (.int pD), .val (.int pE), .val (.int (3 : Int32)), .val (.int v6_121), .val (.ref b122), .val (.ref b123), .val (.ref b151), .val (.ref b162), .val (.int x178), .unset] [(.int pB), (.int x178)]))
      by_cases hc149_184 : x178 = pB
      case pos =>
        refine own_back ?_ (fun t k => XS.icmpYes X169.here hx rfl (pc0 := 149) (pc' := 164) rfl (hb hby at_149) rfl (teq hc149_184).1 (by decide) (by decide) k)
        show own_Go p e below PO (T169.setTop (mkF m 164 #[.val (.int pA), .val (.int pB), .val (.int pC), .val (.int pD), .val (.int pE), .val (.int (3 : Int32)), .val (.int v6_121), .val (.ref b122), .val (.ref b123), .val (.ref b151), .val (.ref b162), .val (.int x178), .unset] []))
        refine own_back ?_ (fun t k => XS.iconst X169.here hx rfl (hb hby at_164) k)
        show own_Go p e below PO (T169.setTop (mkF m 165 #[.val (.int pA), .val (.int pB), .val (.int pC), .val (.int pD), .val (.int pE), .val (.int (3 : Int32)), .val (.int v6_121), .val (.ref b122), .val (.ref b123), .val (.ref b151), .val (.ref b162), .val (.int x178), .unset] [(.int (1 : Int32))]))
        refine own_back ?_ (fun t k => XS.goto X169.here hx rfl (pc0 := 165) (pc' := 169) rfl (hb hby at_165) (by decide) (by decide) k)
        show own_Go p e below PO (T169.setTop (mkF m 169 #[.val (.int pA), .val (.int pB), .val (.int pC), .val (.int pD), .val (.int pE), .val (.int (3 : Int32)), .val (.int v6_121), .val (.ref b122), .val (.ref b123), .val (.ref b151), .val (.ref b162), .val (.int x178), .unset] [(.int (1 : Int32))]))
        refine own_back ?_ (fun t k => XS.istore X169.here hx rfl (hb hby at_169) rfl (l' := #[.val (.int pA), .val (.int pB), .val (.int pC), .val (.int pD), .val (.int pE), .val (.int (3 : Int32)), .val (.int v6_121), .val (.ref b122), .val (.ref b123), .val (.ref b151), .val (.ref b162), .val (.int x178), .val (.int (1 : Int32))]) rfl k)
        show own_Go p e below PO (T169.setTop (mkF m 171 #[.val (.int pA), .val (.int pB), .val (.int pC), .val (.int pD), .val (.int pE), .val (.int (3 : Int32)), .val (.int v6_121), .val (.ref b122), .val (.ref b123), .val (.ref b151), .val (.ref b162), .val (.int x178), .val (.int (1 : Int32))] []))
        refine own_back ?_ (fun t k => XS.aload X169.here hx rfl (hb hby at_171) rfl rfl k)
        show own_Go p e below PO (T169.setTop (mkF m 173 #[.val (.int pA), .val (.int pB), .val (.int pC), .val (.int pD), .val (.int pE), .val (.int (3 : Int32)), .val (.int v6_121), .val (.ref b122), .val (.ref b123), .val (.ref b151), .val (.ref b162), .val (.int x178), .val (.int (1 : Int32))] [(.ref b162)]))
        refine own_back ?_ (fun t k => XS.iload X169.here hx rfl (hb hby at_173) rfl k)
        show own_Go p e below PO (T169.setTop (mkF m 175 #[.val (.int pA), .val (.int pB), .val (.int pC), .val (.int pD), .val (.int pE), .val (.int (3 : Int32)), .val (.int v6_121), .val (.ref b122), .val (.ref b123), .val (.ref b151), .val (.ref b162), .val (.int x178), .val (.int (1 : Int32))] [(.int x178), (.ref b162)]))
        obtain ⟨cq185, kq185, q185a, q185b, q185c⟩ := isOf hZ rfl f169_176
        obtain ⟨_, _, ⟨T185, L185, k185, n185⟩, -, X185, ⟨Lc185, hQ185, l185, y185, z185⟩, st185⟩ := X169.virtualBack hx (y := (⟨"com/example/nearbound/nearbound/dcop/Constraint", "holds", "(I)Z"⟩ : MethodName)) (z := (⟨"com/example/nearbound/nearbound/dcop/Constraint", "holds", "(I)Z"⟩ : MethodName)) hown (mvT hZ (hw _ (List.mem_of_getElem? (i := 51) rfl))) (mvT hZ (hw _ (List.mem_of_getElem? (i := 52) rfl))) (notFace_of_selects (args := #[]) (mvT hZ (hw _ (List.mem_of_getElem? (i := 54) rfl)))) (mvT hZ (hw _ (List.mem_of_getElem? (i := 54) rfl))) (mvT hZ (hw _ (List.mem_of_getElem? (i := 53) rfl))) (by decide) (backOf (W := 0) (rmH_3 l Z a0 hw [] b162 x178 aN k122 pA pB pC T169.heap n0 Zh169 FS VN) hZ (hw _ (List.mem_of_getElem? (i := 55) rfl)) (hw _ (List.mem_of_getElem? (i := 4) rfl)) (by decide) (by decide)) q185a q185c (g := (mkF m 175 #[.val (.int pA), .val (.int pB), .val (.int pC), .val (.int pD), .val (.int pE), .val (.int (3 : Int32)), .val (.int v6_121), .val (.ref b122), .val (.ref b123), .val (.ref b151), .val (.ref b162), .val (.int x178), .val (.int (1 : Int32))] [(.int x178), (.ref b162)])) rfl (by rw [hml]; rfl) (Steps.refl _) (argsL := [(.int x178)]) (rest := []) (lenOf pd_3 rfl) rfl (by show 2 * 0 + _ ≤ _; exact Nat.le_of_eq rfl) (hb hby at_175) (fun _ _ => ⟨rfl, rfl, (by decide : 10 + 0 ≤ _), (by decide : 54 + 0 ≤ _)⟩)
        dsimp only [Pt.U, Pt.locs, Pt.cells, Pt.slots] at X185 l185 y185 z185 st185 hQ185
        subst l185 y185 z185
        obtain ⟨rfl, N185q, e185⟩ := hQ185
        have N185 := Fr.app N169 N185q
        refine own_back ?_ (fun t k => st185.trans k)
        show own_Go p e below PO (T185.setTop (mkF m 178 #[.val (.int pA), .val (.int pB), .val (.int pC), .val (.int pD), .val (.int pE), .val (.int (3 : Int32)), .val (.int v6_121), .val (.ref b122), .val (.ref b123), .val (.ref b151), .val (.ref b162), .val (.int x178), .val (.int (1 : Int32))] [(.int (own_h3 pA pB pC x178))]))
        refine own_gen (A := Int32) (own_h3 pA pB pC x178) (fun r175_186 => own_Go p e below PO (T185.setTop (mkF m 178 #[.val (.int pA), .val (.int pB), .val (.int pC), .val (.int pD), .val (.int pE), .val (.int (3 : Int32)), .val (.int v6_121), .val (.ref b122), .val (.ref b123), .val (.ref b151), .val (.ref b162), .val (.int x178), .val (.int (1 : Int32))] [(.int r175_186)]))) ?_
        intro r175_186 h_r175_186
        show own_Go p e below PO (T185.setTop (mkF m 178 #[.val (.int pA), .val (.int pB), .val (.int pC), .val (.int pD), .val (.int pE), .val (.int (3 : Int32)), .val (.int v6_121), .val (.ref b122), .val (.ref b123), .val (.ref b151), .val (.ref b162), .val (.int x178), .val (.int (1 : Int32))] [(.int r175_186)]))
        refine own_back ?_ (fun t k => XS.iload X185.here hx rfl (hb hby at_178) rfl k)
        show own_Go p e below PO (T185.setTop (mkF m 180 #[.val (.int pA), .val (.int pB), .val (.int pC), .val (.int pD), .val (.int pE), .val (.int (3 : Int32)), .val (.int v6_121), .val (.ref b122), .val (.ref b123), .val (.ref b151), .val (.ref b162), .val (.int x178), .val (.int (1 : Int32))] [(.int (1 : Int32)), (.int r175_186)]))
        have hd180_187 : r175_186 = (1 : Int32) := by rw [h_r175_186, hc149_184]; simp [own_h1, own_h2, own_h3]
        refine own_back ?_ (fun t k => XS.icmpNo X185.here hx rfl (hb hby at_180) rfl (teq hd180_187).2 k)
        show own_Go p e below PO (T185.setTop (mkF m 183 #[.val (.int pA), .val (.int pB), .val (.int pC), .val (.int pD), .val (.int pE), .val (.int (3 : Int32)), .val (.int v6_121), .val (.ref b122), .val (.ref b123), .val (.ref b151), .val (.ref b162), .val (.int x178), .val (.int (1 : Int32))] []))
        refine own_back ?_ (fun t k => XS.iconst X185.here hx rfl (hb hby at_183) k)
        show own_Go p e below PO (T185.setTop (mkF m 184 #[.val (.int pA), .val (.int pB), .val (.int pC), .val (.int pD), .val (.int pE), .val (.int (3 : Int32)), .val (.int v6_121), .val (.ref b122), .val (.ref b123), .val (.ref b151), .val (.ref b162), .val (.int x178), .val (.int (1 : Int32))] [(.int (1 : Int32))]))
        refine own_back ?_ (fun t k => XS.goto X185.here hx rfl (pc0 := 184) (pc' := 188) rfl (hb hby at_184) (by decide) (by decide) k)
        show own_Go p e below PO (T185.setTop (mkF m 188 #[.val (.int pA), .val (.int pB), .val (.int pC), .val (.int pD), .val (.int pE), .val (.int (3 : Int32)), .val (.int v6_121), .val (.ref b122), .val (.ref b123), .val (.ref b151), .val (.ref b162), .val (.int x178), .val (.int (1 : Int32))] [(.int (1 : Int32))]))
        refine own_retNW X185 hx (t := .boolean) (rest := []) Bd.returns (by decide) (by simp) (hb hby at_188) e185 (Bd.notSynchronized) ?_ (by decide) (by decide) (s := s) (vm0 := T169.vm) hS169 (Nat.le_refl _)
        exact ⟨rfl, N185⟩
      refine own_back ?_ (fun t k => XS.icmpNo X169.here hx rfl (hb hby at_149) rfl (feq hc149_184).1 k)
      show own_Go p e below PO (T169.setTop (mkF m 152 #[.val (.int pA), .val (.int pB), .val (.int pC), .val (.int pD), .val (.int pE), .val (.int (3 : Int32)), .val (.int v6_121), .val (.ref b122), .val (.ref b123), .val (.ref b151), .val (.ref b162), .val (.int x178), .unset] []))
      refine own_back ?_ (fun t k => XS.iload X169.here hx rfl (hb hby at_152) rfl k)
      show own_Go p e below PO (T169.setTop (mkF m 154 #[.val (.int pA), .val (.int pB), .val (.int pC), .val (.int pD), .val (.int pE), .val (.int (3 : Int32)), .val (.int v6_121), .val (.ref b122), .val (.ref b123), .val (.ref b151), .val (.ref b162), .val (.int x178), .unset] [(.int (3 : Int32))]))
      refine own_back ?_ (fun t k => XS.iconst X169.here hx rfl (hb hby at_154) k)
      show own_Go p e below PO (T169.setTop (mkF m 155 #[.val (.int pA), .val (.int pB), .val (.int pC), .val (.int pD), .val (.int pE), .val (.int (3 : Int32)), .val (.int v6_121), .val (.ref b122), .val (.ref b123), .val (.ref b151), .val (.ref b162), .val (.int x178), .unset] [(.int (3 : Int32)), (.int (3 : Int32))]))
      refine own_back ?_ (fun t k => XS.icmpNo X169.here hx rfl (hb hby at_155) rfl (flt Int32.lt_irrefl).1 k)
      show own_Go p e below PO (T169.setTop (mkF m 158 #[.val (.int pA), .val (.int pB), .val (.int pC), .val (.int pD), .val (.int pE), .val (.int (3 : Int32)), .val (.int v6_121), .val (.ref b122), .val (.ref b123), .val (.ref b151), .val (.ref b162), .val (.int x178), .unset] []))
      refine own_back ?_ (fun t k => XS.iload X169.here hx rfl (hb hby at_158) rfl k)
      show own_Go p e below PO (T169.setTop (mkF m 160 #[.val (.int pA), .val (.int pB), .val (.int pC), .val (.int pD), .val (.int pE), .val (.int (3 : Int32)), .val (.int v6_121), .val (.ref b122), .val (.ref b123), .val (.ref b151), .val (.ref b162), .val (.int x178), .unset] [(.int x178)]))
      refine own_back ?_ (fun t k => XS.iloadN X169.here hx rfl (hb hby at_160) rfl k)
      show own_Go p e below PO (T169.setTop (mkF m 161 #[.val (.int pA), .val (.int pB), .val (.int pC), .val (.int pD), .val (.int pE), .val (.int (3 : Int32)), .val (.int v6_121), .val (.ref b122), .val (.ref b123), .val (.ref b151), .val (.ref b162), .val (.int x178), .unset] [(.int pC), (.int x178)]))
      by_cases hc161_188 : x178 = pC
      case pos =>
        refine own_back ?_ (fun t k => XS.icmpNo X169.here hx rfl (hb hby at_161) rfl (teq hc161_188).2 k)
        show own_Go p e below PO (T169.setTop (mkF m 164 #[.val (.int pA), .val (.int pB), .val (.int pC), .val (.int pD), .val (.int pE), .val (.int (3 : Int32)), .val (.int v6_121), .val (.ref b122), .val (.ref b123), .val (.ref b151), .val (.ref b162), .val (.int x178), .unset] []))
        refine own_back ?_ (fun t k => XS.iconst X169.here hx rfl (hb hby at_164) k)
        show own_Go p e below PO (T169.setTop (mkF m 165 #[.val (.int pA), .val (.int pB), .val (.int pC), .val (.int pD), .val (.int pE), .val (.int (3 : Int32)), .val (.int v6_121), .val (.ref b122), .val (.ref b123), .val (.ref b151), .val (.ref b162), .val (.int x178), .unset] [(.int (1 : Int32))]))
        refine own_back ?_ (fun t k => XS.goto X169.here hx rfl (pc0 := 165) (pc' := 169) rfl (hb hby at_165) (by decide) (by decide) k)
        show own_Go p e below PO (T169.setTop (mkF m 169 #[.val (.int pA), .val (.int pB), .val (.int pC), .val (.int pD), .val (.int pE), .val (.int (3 : Int32)), .val (.int v6_121), .val (.ref b122), .val (.ref b123), .val (.ref b151), .val (.ref b162), .val (.int x178), .unset] [(.int (1 : Int32))]))
        refine own_back ?_ (fun t k => XS.istore X169.here hx rfl (hb hby at_169) rfl (l' := #[.val (.int pA), .val (.int pB), .val (.int pC), .val (.int pD), .val (.int pE), .val (.int (3 : Int32)), .val (.int v6_121), .val (.ref b122), .val (.ref b123), .val (.ref b151), .val (.ref b162), .val (.int x178), .val (.int (1 : Int32))]) rfl k)
        show own_Go p e below PO (T169.setTop (mkF m 171 #[.val (.int pA), .val (.int pB), .val (.int pC), .val (.int pD), .val (.int pE), .val (.int (3 : Int32)), .val (.int v6_121), .val (.ref b122), .val (.ref b123), .val (.ref b151), .val (.ref b162), .val (.int x178), .val (.int (1 : Int32))] []))
        refine own_back ?_ (fun t k => XS.aload X169.here hx rfl (hb hby at_171) rfl rfl k)
        show own_Go p e below PO (T169.setTop (mkF m 173 #[.val (.int pA), .val (.int pB), .val (.int pC), .val (.int pD), .val (.int pE), .val (.int (3 : Int32)), .val (.int v6_121), .val (.ref b122), .val (.ref b123), .val (.ref b151), .val (.ref b162), .val (.int x178), .val (.int (1 : Int32))] [(.ref b162)]))
        refine own_back ?_ (fun t k => XS.iload X169.here hx rfl (hb hby at_173) rfl k)
        show own_Go p e below PO (T169.setTop (mkF m 175 #[.val (.int pA), .val (.int pB), .val (.int pC), .val (.int pD), .val (.int pE), .val (.int (3 : Int32)), .val (.int v6_121), .val (.ref b122), .val (.ref b123), .val (.ref b151), .val (.ref b162), .val (.int x178), .val (.int (1 : Int32))] [(.int x178), (.ref b162)]))
        obtain ⟨cq189, kq189, q189a, q189b, q189c⟩ := isOf hZ rfl f169_176
        obtain ⟨_, _, ⟨T189, L189, k189, n189⟩, -, X189, ⟨Lc189, hQ189, l189, y189, z189⟩, st189⟩ := X169.virtualBack hx (y := (⟨"com/example/nearbound/nearbound/dcop/Constraint", "holds", "(I)Z"⟩ : MethodName)) (z := (⟨"com/example/nearbound/nearbound/dcop/Constraint", "holds", "(I)Z"⟩ : MethodName)) hown (mvT hZ (hw _ (List.mem_of_getElem? (i := 51) rfl))) (mvT hZ (hw _ (List.mem_of_getElem? (i := 52) rfl))) (notFace_of_selects (args := #[]) (mvT hZ (hw _ (List.mem_of_getElem? (i := 54) rfl)))) (mvT hZ (hw _ (List.mem_of_getElem? (i := 54) rfl))) (mvT hZ (hw _ (List.mem_of_getElem? (i := 53) rfl))) (by decide) (backOf (W := 0) (rmH_3 l Z a0 hw [] b162 x178 aN k122 pA pB pC T169.heap n0 Zh169 FS VN) hZ (hw _ (List.mem_of_getElem? (i := 55) rfl)) (hw _ (List.mem_of_getElem? (i := 4) rfl)) (by decide) (by decide)) q189a q189c (g := (mkF m 175 #[.val (.int pA), .val (.int pB), .val (.int pC), .val (.int pD), .val (.int pE), .val (.int (3 : Int32)), .val (.int v6_121), .val (.ref b122), .val (.ref b123), .val (.ref b151), .val (.ref b162), .val (.int x178), .val (.int (1 : Int32))] [(.int x178), (.ref b162)])) rfl (by rw [hml]; rfl) (Steps.refl _) (argsL := [(.int x178)]) (rest := []) (lenOf pd_3 rfl) rfl (by show 2 * 0 + _ ≤ _; exact Nat.le_of_eq rfl) (hb hby at_175) (fun _ _ => ⟨rfl, rfl, (by decide : 10 + 0 ≤ _), (by decide : 54 + 0 ≤ _)⟩)
        dsimp only [Pt.U, Pt.locs, Pt.cells, Pt.slots] at X189 l189 y189 z189 st189 hQ189
        subst l189 y189 z189
        obtain ⟨rfl, N189q, e189⟩ := hQ189
        have N189 := Fr.app N169 N189q
        refine own_back ?_ (fun t k => st189.trans k)
        show own_Go p e below PO (T189.setTop (mkF m 178 #[.val (.int pA), .val (.int pB), .val (.int pC), .val (.int pD), .val (.int pE), .val (.int (3 : Int32)), .val (.int v6_121), .val (.ref b122), .val (.ref b123), .val (.ref b151), .val (.ref b162), .val (.int x178), .val (.int (1 : Int32))] [(.int (own_h3 pA pB pC x178))]))
        refine own_gen (A := Int32) (own_h3 pA pB pC x178) (fun r175_190 => own_Go p e below PO (T189.setTop (mkF m 178 #[.val (.int pA), .val (.int pB), .val (.int pC), .val (.int pD), .val (.int pE), .val (.int (3 : Int32)), .val (.int v6_121), .val (.ref b122), .val (.ref b123), .val (.ref b151), .val (.ref b162), .val (.int x178), .val (.int (1 : Int32))] [(.int r175_190)]))) ?_
        intro r175_190 h_r175_190
        show own_Go p e below PO (T189.setTop (mkF m 178 #[.val (.int pA), .val (.int pB), .val (.int pC), .val (.int pD), .val (.int pE), .val (.int (3 : Int32)), .val (.int v6_121), .val (.ref b122), .val (.ref b123), .val (.ref b151), .val (.ref b162), .val (.int x178), .val (.int (1 : Int32))] [(.int r175_190)]))
        refine own_back ?_ (fun t k => XS.iload X189.here hx rfl (hb hby at_178) rfl k)
        show own_Go p e below PO (T189.setTop (mkF m 180 #[.val (.int pA), .val (.int pB), .val (.int pC), .val (.int pD), .val (.int pE), .val (.int (3 : Int32)), .val (.int v6_121), .val (.ref b122), .val (.ref b123), .val (.ref b151), .val (.ref b162), .val (.int x178), .val (.int (1 : Int32))] [(.int (1 : Int32)), (.int r175_190)]))
        have hd180_191 : r175_190 = (1 : Int32) := by rw [h_r175_190, hc161_188]; simp [own_h1, own_h2, own_h3]
        refine own_back ?_ (fun t k => XS.icmpNo X189.here hx rfl (hb hby at_180) rfl (teq hd180_191).2 k)
        show own_Go p e below PO (T189.setTop (mkF m 183 #[.val (.int pA), .val (.int pB), .val (.int pC), .val (.int pD), .val (.int pE), .val (.int (3 : Int32)), .val (.int v6_121), .val (.ref b122), .val (.ref b123), .val (.ref b151), .val (.ref b162), .val (.int x178), .val (.int (1 : Int32))] []))
        refine own_back ?_ (fun t k => XS.iconst X189.here hx rfl (hb hby at_183) k)
        show own_Go p e below PO (T189.setTop (mkF m 184 #[.val (.int pA), .val (.int pB), .val (.int pC), .val (.int pD), .val (.int pE), .val (.int (3 : Int32)), .val (.int v6_121), .val (.ref b122), .val (.ref b123), .val (.ref b151), .val (.ref b162), .val (.int x178), .val (.int (1 : Int32))] [(.int (1 : Int32))]))
        refine own_back ?_ (fun t k => XS.goto X189.here hx rfl (pc0 := 184) (pc' := 188) rfl (hb hby at_184) (by decide) (by decide) k)
        show own_Go p e below PO (T189.setTop (mkF m 188 #[.val (.int pA), .val (.int pB), .val (.int pC), .val (.int pD), .val (.int pE), .val (.int (3 : Int32)), .val (.int v6_121), .val (.ref b122), .val (.ref b123), .val (.ref b151), .val (.ref b162), .val (.int x178), .val (.int (1 : Int32))] [(.int (1 : Int32))]))
        refine own_retNW X189 hx (t := .boolean) (rest := []) Bd.returns (by decide) (by simp) (hb hby at_188) e189 (Bd.notSynchronized) ?_ (by decide) (by decide) (s := s) (vm0 := T169.vm) hS169 (Nat.le_refl _)
        exact ⟨rfl, N189⟩
      refine own_back ?_ (fun t k => XS.icmpYes X169.here hx rfl (pc0 := 161) (pc' := 168) rfl (hb hby at_161) rfl (feq hc161_188).2 (by decide) (by decide) k)
      show own_Go p e below PO (T169.setTop (mkF m 168 #[.val (.int pA), .val (.int pB), .val (.int pC), .val (.int pD), .val (.int pE), .val (.int (3 : Int32)), .val (.int v6_121), .val (.ref b122), .val (.ref b123), .val (.ref b151), .val (.ref b162), .val (.int x178), .unset] []))
      refine own_back ?_ (fun t k => XS.iconst X169.here hx rfl (hb hby at_168) k)
      show own_Go p e below PO (T169.setTop (mkF m 169 #[.val (.int pA), .val (.int pB), .val (.int pC), .val (.int pD), .val (.int pE), .val (.int (3 : Int32)), .val (.int v6_121), .val (.ref b122), .val (.ref b123), .val (.ref b151), .val (.ref b162), .val (.int x178), .unset] [(.int (0 : Int32))]))
      refine own_back ?_ (fun t k => XS.istore X169.here hx rfl (hb hby at_169) rfl (l' := #[.val (.int pA), .val (.int pB), .val (.int pC), .val (.int pD), .val (.int pE), .val (.int (3 : Int32)), .val (.int v6_121), .val (.ref b122), .val (.ref b123), .val (.ref b151), .val (.ref b162), .val (.int x178), .val (.int (0 : Int32))]) rfl k)
      show own_Go p e below PO (T169.setTop (mkF m 171 #[.val (.int pA), .val (.int pB), .val (.int pC), .val (.int pD), .val (.int pE), .val (.int (3 : Int32)), .val (.int v6_121), .val (.ref b122), .val (.ref b123), .val (.ref b151), .val (.ref b162), .val (.int x178), .val (.int (0 : Int32))] []))
      refine own_back ?_ (fun t k => XS.aload X169.here hx rfl (hb hby at_171) rfl rfl k)
      show own_Go p e below PO (T169.setTop (mkF m 173 #[.val (.int pA), .val (.int pB), .val (.int pC), .val (.int pD), .val (.int pE), .val (.int (3 : Int32)), .val (.int v6_121), .val (.ref b122), .val (.ref b123), .val (.ref b151), .val (.ref b162), .val (.int x178), .val (.int (0 : Int32))] [(.ref b162)]))
      refine own_back ?_ (fun t k => XS.iload X169.here hx rfl (hb hby at_173) rfl k)
      show own_Go p e below PO (T169.setTop (mkF m 175 #[.val (.int pA), .val (.int pB), .val (.int pC), .val (.int pD), .val (.int pE), .val (.int (3 : Int32)), .val (.int v6_121), .val (.ref b122), .val (.ref b123), .val (.ref b151), .val (.ref b162), .val (.int x178), .val (.int (0 : Int32))] [(.int x178), (.ref b162)]))
      obtain ⟨cq192, kq192, q192a, q192b, q192c⟩ := isOf hZ rfl f169_176
      obtain ⟨_, _, ⟨T192, L192, k192, n192⟩, -, X192, ⟨Lc192, hQ192, l192, y192, z192⟩, st192⟩ := X169.virtualBack hx (y := (⟨"com/example/nearbound/nearbound/dcop/Constraint", "holds", "(I)Z"⟩ : MethodName)) (z := (⟨"com/example/nearbound/nearbound/dcop/Constraint", "holds", "(I)Z"⟩ : MethodName)) hown (mvT hZ (hw _ (List.mem_of_getElem? (i := 51) rfl))) (mvT hZ (hw _ (List.mem_of_getElem? (i := 52) rfl))) (notFace_of_selects (args := #[]) (mvT hZ (hw _ (List.mem_of_getElem? (i := 54) rfl)))) (mvT hZ (hw _ (List.mem_of_getElem? (i := 54) rfl))) (mvT hZ (hw _ (List.mem_of_getElem? (i := 53) rfl))) (by decide) (backOf (W := 0) (rmH_3 l Z a0 hw [] b162 x178 aN k122 pA pB pC T169.heap n0 Zh169 FS VN) hZ (hw _ (List.mem_of_getElem? (i := 55) rfl)) (hw _ (List.mem_of_getElem? (i := 4) rfl)) (by decide) (by decide)) q192a q192c (g := (mkF m 175 #[.val (.int pA), .val (.int pB), .val (.int pC), .val (.int pD), .val (.int pE), .val (.int (3 : Int32)), .val (.int v6_121), .val (.ref b122), .val (.ref b123), .val (.ref b151), .val (.ref b162), .val (.int x178), .val (.int (0 : Int32))] [(.int x178), (.ref b162)])) rfl (by rw [hml]; rfl) (Steps.refl _) (argsL := [(.int x178)]) (rest := []) (lenOf pd_3 rfl) rfl (by show 2 * 0 + _ ≤ _; exact Nat.le_of_eq rfl) (hb hby at_175) (fun _ _ => ⟨rfl, rfl, (by decide : 10 + 0 ≤ _), (by decide : 54 + 0 ≤ _)⟩)
      dsimp only [Pt.U, Pt.locs, Pt.cells, Pt.slots] at X192 l192 y192 z192 st192 hQ192
      subst l192 y192 z192
      obtain ⟨rfl, N192q, e192⟩ := hQ192
      have N192 := Fr.app N169 N192q
      refine own_back ?_ (fun t k => st192.trans k)
      show own_Go p e below PO (T192.setTop (mkF m 178 #[.val (.int pA), .val (.int pB), .val (.int pC), .val (.int pD), .val (.int pE), .val (.int (3 : Int32)), .val (.int v6_121), .val (.ref b122), .val (.ref b123), .val (.ref b151), .val (.ref b162), .val (.int x178), .val (.int (0 : Int32))] [(.int (own_h3 pA pB pC x178))]))
      refine own_gen (A := Int32) (own_h3 pA pB pC x178) (fun r175_193 => own_Go p e below PO (T192.setTop (mkF m 178 #[.val (.int pA), .val (.int pB), .val (.int pC), .val (.int pD), .val (.int pE), .val (.int (3 : Int32)), .val (.int v6_121), .val (.ref b122), .val (.ref b123), .val (.ref b151), .val (.ref b162), .val (.int x178), .val (.int (0 : Int32))] [(.int r175_193)]))) ?_
      intro r175_193 h_r175_193
      show own_Go p e below PO (T192.setTop (mkF m 178 #[.val (.int pA), .val (.int pB), .val (.int pC), .val (.int pD), .val (.int pE), .val (.int (3 : Int32)), .val (.int v6_121), .val (.ref b122), .val (.ref b123), .val (.ref b151), .val (.ref b162), .val (.int x178), .val (.int (0 : Int32))] [(.int r175_193)]))
      refine own_back ?_ (fun t k => XS.iload X192.here hx rfl (hb hby at_178) rfl k)
      show own_Go p e below PO (T192.setTop (mkF m 180 #[.val (.int pA), .val (.int pB), .val (.int pC), .val (.int pD), .val (.int pE), .val (.int (3 : Int32)), .val (.int v6_121), .val (.ref b122), .val (.ref b123), .val (.ref b151), .val (.ref b162), .val (.int x178), .val (.int (0 : Int32))] [(.int (0 : Int32)), (.int r175_193)]))
      have hd180_194 : r175_193 = (0 : Int32) := by rw [h_r175_193]; simp [own_h1, own_h2, own_h3, Ne.symm hc137_179, Ne.symm hc149_184, Ne.symm hc161_188]
      refine own_back ?_ (fun t k => XS.icmpNo X192.here hx rfl (hb hby at_180) rfl (teq hd180_194).2 k)
      show own_Go p e below PO (T192.setTop (mkF m 183 #[.val (.int pA), .val (.int pB), .val (.int pC), .val (.int pD), .val (.int pE), .val (.int (3 : Int32)), .val (.int v6_121), .val (.ref b122), .val (.ref b123), .val (.ref b151), .val (.ref b162), .val (.int x178), .val (.int (0 : Int32))] []))
      refine own_back ?_ (fun t k => XS.iconst X192.here hx rfl (hb hby at_183) k)
      show own_Go p e below PO (T192.setTop (mkF m 184 #[.val (.int pA), .val (.int pB), .val (.int pC), .val (.int pD), .val (.int pE), .val (.int (3 : Int32)), .val (.int v6_121), .val (.ref b122), .val (.ref b123), .val (.ref b151), .val (.ref b162), .val (.int x178), .val (.int (0 : Int32))] [(.int (1 : Int32))]))
      refine own_back ?_ (fun t k => XS.goto X192.here hx rfl (pc0 := 184) (pc' := 188) rfl (hb hby at_184) (by decide) (by decide) k)
      show own_Go p e below PO (T192.setTop (mkF m 188 #[.val (.int pA), .val (.int pB), .val (.int pC), .val (.int pD), .val (.int pE), .val (.int (3 : Int32)), .val (.int v6_121), .val (.ref b122), .val (.ref b123), .val (.ref b151), .val (.ref b162), .val (.int x178), .val (.int (0 : Int32))] [(.int (1 : Int32))]))
      refine own_retNW X192 hx (t := .boolean) (rest := []) Bd.returns (by decide) (by simp) (hb hby at_188) e192 (Bd.notSynchronized) ?_ (by decide) (by decide) (s := s) (vm0 := T169.vm) hS169 (Nat.le_refl _)
      exact ⟨rfl, N192⟩
    by_cases hc98_177 : v6_121 = (0 : Int32)
    case pos =>
      refine own_back ?_ (fun t k => XS.ifNo X169.here hx rfl (hb hby at_98) rfl ((if0 _ _).trans (teq hc98_177).2) k)
      show own_Go p e below PO (T169.setTop (mkF m 101 #[.val (.int pA), .val (.int pB), .val (.int pC), .val (.int pD), .val (.int pE), .val (.int (3 : Int32)), .val (.int v6_121), .val (.ref b122), .val (.ref b123), .val (.ref b151), .val (.ref b162), .unset, .unset] []))
      refine own_back ?_ (fun t k => XS.iloadN X169.here hx rfl (hb hby at_101) rfl k)
      show own_Go p e below PO (T169.setTop (mkF m 102 #[.val (.int pA), .val (.int pB), .val (.int pC), .val (.int pD), .val (.int pE), .val (.int (3 : Int32)), .val (.int v6_121), .val (.ref b122), .val (.ref b123), .val (.ref b151), .val (.ref b162), .unset, .unset] [(.int pA)]))
      refine own_back ?_ (fun t k => XS.istore X169.here hx rfl (hb hby at_102) rfl (l' := #[.val (.int pA), .val (.int pB), .val (.int pC), .val (.int pD), .val (.int pE), .val (.int (3 : Int32)), .val (.int v6_121), .val (.ref b122), .val (.ref b123), .val (.ref b151), .val (.ref b162), .val (.int pA), .unset]) rfl k)
      show own_Go p e below PO (T169.setTop (mkF m 104 #[.val (.int pA), .val (.int pB), .val (.int pC), .val (.int pD), .val (.int pE), .val (.int (3 : Int32)), .val (.int v6_121), .val (.ref b122), .val (.ref b123), .val (.ref b151), .val (.ref b162), .val (.int pA), .unset] []))
      refine own_back ?_ (fun t k => XS.goto X169.here hx rfl (pc0 := 104) (pc' := 134) rfl (hb hby at_104) (by decide) (by decide) k)
      show own_Go p e below PO (T169.setTop (mkF m 134 #[.val (.int pA), .val (.int pB), .val (.int pC), .val (.int pD), .val (.int pE), .val (.int (3 : Int32)), .val (.int v6_121), .val (.ref b122), .val (.ref b123), .val (.ref b151), .val (.ref b162), .val (.int pA), .unset] []))
      exact J178 _
    refine own_back ?_ (fun t k => XS.ifYes X169.here hx rfl (pc0 := 98) (pc' := 107) rfl (hb hby at_98) rfl ((if0 _ _).trans (feq hc98_177).2) (by decide) (by decide) k)
    show own_Go p e below PO (T169.setTop (mkF m 107 #[.val (.int pA), .val (.int pB), .val (.int pC), .val (.int pD), .val (.int pE), .val (.int (3 : Int32)), .val (.int v6_121), .val (.ref b122), .val (.ref b123), .val (.ref b151), .val (.ref b162), .unset, .unset] []))
    refine own_back ?_ (fun t k => XS.iload X169.here hx rfl (hb hby at_107) rfl k)
    show own_Go p e below PO (T169.setTop (mkF m 109 #[.val (.int pA), .val (.int pB), .val (.int pC), .val (.int pD), .val (.int pE), .val (.int (3 : Int32)), .val (.int v6_121), .val (.ref b122), .val (.ref b123), .val (.ref b151), .val (.ref b162), .unset, .unset] [(.int v6_121)]))
    refine own_back ?_ (fun t k => XS.iconst X169.here hx rfl (hb hby at_109) k)
    show own_Go p e below PO (T169.setTop (mkF m 110 #[.val (.int pA), .val (.int pB), .val (.int pC), .val (.int pD), .val (.int pE), .val (.int (3 : Int32)), .val (.int v6_121), .val (.ref b122), .val (.ref b123), .val (.ref b151), .val (.ref b162), .unset, .unset] [(.int (1 : Int32)), (.int v6_121)]))
    by_cases hc110_195 : v6_121 = (1 : Int32)
    case pos =>
      refine own_back ?_ (fun t k => XS.icmpNo X169.here hx rfl (hb hby at_110) rfl (teq hc110_195).2 k)
      show own_Go p e below PO (T169.setTop (mkF m 113 #[.val (.int pA), .val (.int pB), .val (.int pC), .val (.int pD), .val (.int pE), .val (.int (3 : Int32)), .val (.int v6_121), .val (.ref b122), .val (.ref b123), .val (.ref b151), .val (.ref b162), .unset, .unset] []))
      refine own_back ?_ (fun t k => XS.iloadN X169.here hx rfl (hb hby at_113) rfl k)
      show own_Go p e below PO (T169.setTop (mkF m 114 #[.val (.int pA), .val (.int pB), .val (.int pC), .val (.int pD), .val (.int pE), .val (.int (3 : Int32)), .val (.int v6_121), .val (.ref b122), .val (.ref b123), .val (.ref b151), .val (.ref b162), .unset, .unset] [(.int pB)]))
      refine own_back ?_ (fun t k => XS.istore X169.here hx rfl (hb hby at_114) rfl (l' := #[.val (.int pA), .val (.int pB), .val (.int pC), .val (.int pD), .val (.int pE), .val (.int (3 : Int32)), .val (.int v6_121), .val (.ref b122), .val (.ref b123), .val (.ref b151), .val (.ref b162), .val (.int pB), .unset]) rfl k)
      show own_Go p e below PO (T169.setTop (mkF m 116 #[.val (.int pA), .val (.int pB), .val (.int pC), .val (.int pD), .val (.int pE), .val (.int (3 : Int32)), .val (.int v6_121), .val (.ref b122), .val (.ref b123), .val (.ref b151), .val (.ref b162), .val (.int pB), .unset] []))
      refine own_back ?_ (fun t k => XS.goto X169.here hx rfl (pc0 := 116) (pc' := 134) rfl (hb hby at_116) (by decide) (by decide) k)
      show own_Go p e below PO (T169.setTop (mkF m 134 #[.val (.int pA), .val (.int pB), .val (.int pC), .val (.int pD), .val (.int pE), .val (.int (3 : Int32)), .val (.int v6_121), .val (.ref b122), .val (.ref b123), .val (.ref b151), .val (.ref b162), .val (.int pB), .unset] []))
      exact J178 _
    refine own_back ?_ (fun t k => XS.icmpYes X169.here hx rfl (pc0 := 110) (pc' := 119) rfl (hb hby at_110) rfl (feq hc110_195).2 (by decide) (by decide) k)
    show own_Go p e below PO (T169.setTop (mkF m 119 #[.val (.int pA), .val (.int pB), .val (.int pC), .val (.int pD), .val (.int pE), .val (.int (3 : Int32)), .val (.int v6_121), .val (.ref b122), .val (.ref b123), .val (.ref b151), .val (.ref b162), .unset, .unset] []))
    refine own_back ?_ (fun t k => XS.iload X169.here hx rfl (hb hby at_119) rfl k)
    show own_Go p e below PO (T169.setTop (mkF m 121 #[.val (.int pA), .val (.int pB), .val (.int pC), .val (.int pD), .val (.int pE), .val (.int (3 : Int32)), .val (.int v6_121), .val (.ref b122), .val (.ref b123), .val (.ref b151), .val (.ref b162), .unset, .unset] [(.int v6_121)]))
    refine own_back ?_ (fun t k => XS.iconst X169.here hx rfl (hb hby at_121) k)
    show own_Go p e below PO (T169.setTop (mkF m 122 #[.val (.int pA), .val (.int pB), .val (.int pC), .val (.int pD), .val (.int pE), .val (.int (3 : Int32)), .val (.int v6_121), .val (.ref b122), .val (.ref b123), .val (.ref b151), .val (.ref b162), .unset, .unset] [(.int (2 : Int32)), (.int v6_121)]))
    by_cases hc122_196 : v6_121 = (2 : Int32)
    case pos =>
      refine own_back ?_ (fun t k => XS.icmpNo X169.here hx rfl (hb hby at_122) rfl (teq hc122_196).2 k)
      show own_Go p e below PO (T169.setTop (mkF m 125 #[.val (.int pA), .val (.int pB), .val (.int pC), .val (.int pD), .val (.int pE), .val (.int (3 : Int32)), .val (.int v6_121), .val (.ref b122), .val (.ref b123), .val (.ref b151), .val (.ref b162), .unset, .unset] []))
      refine own_back ?_ (fun t k => XS.iloadN X169.here hx rfl (hb hby at_125) rfl k)
      show own_Go p e below PO (T169.setTop (mkF m 126 #[.val (.int pA), .val (.int pB), .val (.int pC), .val (.int pD), .val (.int pE), .val (.int (3 : Int32)), .val (.int v6_121), .val (.ref b122), .val (.ref b123), .val (.ref b151), .val (.ref b162), .unset, .unset] [(.int pC)]))
      refine own_back ?_ (fun t k => XS.istore X169.here hx rfl (hb hby at_126) rfl (l' := #[.val (.int pA), .val (.int pB), .val (.int pC), .val (.int pD), .val (.int pE), .val (.int (3 : Int32)), .val (.int v6_121), .val (.ref b122), .val (.ref b123), .val (.ref b151), .val (.ref b162), .val (.int pC), .unset]) rfl k)
      show own_Go p e below PO (T169.setTop (mkF m 128 #[.val (.int pA), .val (.int pB), .val (.int pC), .val (.int pD), .val (.int pE), .val (.int (3 : Int32)), .val (.int v6_121), .val (.ref b122), .val (.ref b123), .val (.ref b151), .val (.ref b162), .val (.int pC), .unset] []))
      refine own_back ?_ (fun t k => XS.goto X169.here hx rfl (pc0 := 128) (pc' := 134) rfl (hb hby at_128) (by decide) (by decide) k)
      show own_Go p e below PO (T169.setTop (mkF m 134 #[.val (.int pA), .val (.int pB), .val (.int pC), .val (.int pD), .val (.int pE), .val (.int (3 : Int32)), .val (.int v6_121), .val (.ref b122), .val (.ref b123), .val (.ref b151), .val (.ref b162), .val (.int pC), .unset] []))
      exact J178 _
    refine own_back ?_ (fun t k => XS.icmpYes X169.here hx rfl (pc0 := 122) (pc' := 131) rfl (hb hby at_122) rfl (feq hc122_196).2 (by decide) (by decide) k)
    show own_Go p e below PO (T169.setTop (mkF m 131 #[.val (.int pA), .val (.int pB), .val (.int pC), .val (.int pD), .val (.int pE), .val (.int (3 : Int32)), .val (.int v6_121), .val (.ref b122), .val (.ref b123), .val (.ref b151), .val (.ref b162), .unset, .unset] []))
    refine own_back ?_ (fun t k => XS.iloadN X169.here hx rfl (hb hby at_131) rfl k)
    show own_Go p e below PO (T169.setTop (mkF m 132 #[.val (.int pA), .val (.int pB), .val (.int pC), .val (.int pD), .val (.int pE), .val (.int (3 : Int32)), .val (.int v6_121), .val (.ref b122), .val (.ref b123), .val (.ref b151), .val (.ref b162), .unset, .unset] [(.int pD)]))
    refine own_back ?_ (fun t k => XS.istore X169.here hx rfl (hb hby at_132) rfl (l' := #[.val (.int pA), .val (.int pB), .val (.int pC), .val (.int pD), .val (.int pE), .val (.int (3 : Int32)), .val (.int v6_121), .val (.ref b122), .val (.ref b123), .val (.ref b151), .val (.ref b162), .val (.int pD), .unset]) rfl k)
    show own_Go p e below PO (T169.setTop (mkF m 134 #[.val (.int pA), .val (.int pB), .val (.int pC), .val (.int pD), .val (.int pE), .val (.int (3 : Int32)), .val (.int v6_121), .val (.ref b122), .val (.ref b123), .val (.ref b151), .val (.ref b162), .val (.int pD), .unset] []))
    exact J178 _
set_option maxRecDepth 65536 in
set_option maxHeartbeats 40000000 in
theorem comes_1 {Post : Tables → Env → Array Value → State → Outcome → State → Prop} (hpost : ∀ tb e args s v u, (limb_1_1.after args s (.returned v) u = true ∧ limb_1_2.after args s (.returned v) u = true ∧ True) → ReturnedEndW s (.returned v) u (Jvm.fieldLocs frame_1_writes args s ++ Jvm.arrayLocs frame_1_arrays args s ++ Jvm.staticLocs frame_1_statics s) 32 1152 → Post tb e args s (.returned v) u) :
    ArmFor flags0 classFile x code maxLocals ret World_1 tables_1 room_1 Calls_1 rest_1 Pre_1 Post := by
  intro l hfl _ _ p e ha hc hk s m args below hf hA hF happ hP
  obtain ⟨hcalls, hrest, hpre⟩ := hP
  obtain ⟨-, -, -, hnamed, -, -, -, hat⟩ := (Spec.applies_iff hf).mp happ
  obtain ⟨hg, hn⟩ := and_e (Cond.before_iff.mp (show (Jvm.Cond.and given_1 narrow_1).before args s = true from hpre))
  obtain ⟨gc, g0⟩ := and_e hg
  obtain ⟨ga0, g1⟩ := and_e g0
  obtain ⟨ga1, g2⟩ := and_e g1
  obtain ⟨ga2, g3⟩ := and_e g2
  obtain ⟨ga3, g4⟩ := and_e g3
  obtain ⟨w0, w1, w2, w3, w4, rfl⟩ : ∃ w0 w1 w2 w3 w4 : Value, args = #[w0, w1, w2, w3, w4] := by
    have hs : args.size = 5 := by simpa [Cond.value, given_1] using gc
    obtain ⟨L⟩ := args
    match L, hs with
    | [w0, w1, w2, w3, w4], _ => exact ⟨w0, w1, w2, w3, w4, rfl⟩
  have hw := fun d (hd : d ∈ tables_1) => atoms_spec (ws := Jvm.Cond.code x code maxLocals ret :: tables_1) hat d (List.mem_cons_of_mem _ hd)
  obtain ⟨i0, ei0⟩ := is_v ga0
  obtain rfl : w0 = (.int i0) := Option.some.inj ei0
  obtain ⟨i1, ei1⟩ := is_v ga1
  obtain rfl : w1 = (.int i1) := Option.some.inj ei1
  obtain ⟨i2, ei2⟩ := is_v ga2
  obtain rfl : w2 = (.int i2) := Option.some.inj ei2
  obtain ⟨i3, ei3⟩ := is_v ga3
  obtain rfl : w3 = (.int i3) := Option.some.inj ei3
  obtain ⟨i4, ei4⟩ := is_v g4
  obtain rfl : w4 = (.int i4) := Option.some.inj ei4
  obtain ⟨n, o, h1, h2, h3, _, L, rfl, ⟨rfl, N⟩, hq⟩ := rm0 l s _ hw tables_1 i0 i1 i2 i3 i4  s.heap s.heap.size (Nat.le_refl _)  p e ha hc hk s m _ below hf ((Spec.applies_iff_loose hf).mp happ).1 ⟨rfl, State.Warmed39.refl s, rfl⟩ trivial
  refine ⟨n, _, h1, h2, h3, hpost _ _ _ _ _ _ ⟨Cond.after_iff.mpr rfl, Cond.after_iff.mpr (eq_i res_at (Term.int_eval (1)) rfl), trivial⟩ ⟨hq.1, hq.2.1, hq.2.2.1, (hq.2.2.2.sift fun y hy => Or.inr (N y hy)).mono (by decide) (by decide)⟩⟩
theorem main_1_1 : Claimed_1_1 := comes_1 fun _ _ _ _ _ _ h hF => ⟨h.1, hF⟩
theorem main_1_2 : Claimed_1_2 := comes_1 fun _ _ _ _ _ _ h hF => ⟨h.2.1, hF⟩
end Jvm.Pilot.@@N@@
namespace Jvm.Pilot.@@N@@
open Jvm Jvm.ClassFile Sem Op Lib Jvm.Free Jvm.Stand Jvm.Pilot.@@N@@.Jvm.D
/-! MADE BY PROGRAM (witnessworld.py) out of the Statement's table words and the real class files: 15 classes; the members and pool entries that the words name. The judged class is class 1, her method 1. -/
namespace start1
open Jvm.ClassFile
def u (s : String) : CpInfo := .utf8 (stringToUtf16 s)
/-- a pool by its gaps: so many unusable entries, then the entry; so many at the end -/
def gap : Nat → List CpInfo → List CpInfo
  | 0, r => r
  | n + 1, r => .unusable :: gap n r
def poolList (es : List (Nat × CpInfo)) (last : Nat) : List CpInfo := es.foldr (fun e r => gap e.1 (e.2 :: r)) (gap last [])
def pool (es : List (Nat × CpInfo)) (last : Nat) : Array CpInfo := ⟨poolList es last⟩
def fileOf (pool : Array CpInfo) (this : Nat) (attrs : Array Attribute := #[]) (ms : Array MethodInfo := #[]) (fl : Nat := 33) (sup : Nat := 0) (ifs : Array Nat := #[]) (fds : Array FieldInfo := #[]) : ClassFile where
  minorVersion := 0
  majorVersion := 65
  constantPool := pool
  accessFlags := fl
  thisClass := this
  superClass := sup
  interfaces := ifs
  fields := fds
  methods := ms
  attributes := attrs
def plain (name : String) (sup : Option ClassId) : Class where
  name := name
  kind := .ordinary
  loader := none
  accessFlags := 33
  super := sup
  interfaces := #[]
  cf := none
  fields := #[]
  methods := #[]
  instanceTypes := #[]
  staticTypes := #[]
  resolved := #[]
  callSites := []
  init := .initialized
  statics := none
  mirror := none

def pool0 : Array CpInfo := pool [(5, u "<init>"), (0, u "()V"), (1, .class_ 10), (1, u "java/lang/Object"), (85, u "clone"), (0, u "()Ljava/lang/Object;")] 26

def k0c0 : Code := { maxStack := 0, maxLocals := 1, code := object_method_1_code, exceptionTable := #[], attributes := #[] }
def k0m0 : Method := { name := "<init>", desc := "()V", sig := { parameters := [], returnType := none }, accessFlags := 1, code := some k0c0 }
def k0m1 : Method := { name := "clone", desc := "()Ljava/lang/Object;", sig := { parameters := [], returnType := some (.object "java/lang/Object") }, accessFlags := 260, code := none }
/-- java/lang/Object -/
def k0 : Class := { plain "java/lang/Object" none with
  accessFlags := 33
  interfaces := #[]
  cf := some (fileOf pool0 8 #[] #[{ accessFlags := 1, nameIndex := 5, descriptorIndex := 6, attributes := #[] }, { accessFlags := 260, nameIndex := 96, descriptorIndex := 97, attributes := #[] }] 33 0 #[] #[])
  fields := #[]
  methods := #[k0m0, k0m1]
  instanceTypes := #[]
  staticTypes := #[]
  resolved := Array.replicate 124 none
  statics := none }

def pool1 : Array CpInfo := pool [(2, .class_ 4), (1, u "java/lang/Object"), (0, u "<init>"), (0, u "()V"), (0, .class_ 8), (0, u "com/example/nearbound/nearbound/dcop/Constraint"), (0, .methodref 7 10), (0, .nameAndType 5 11), (0, u "([I[I[D[D)V"), (0, .methodref 7 13), (0, .nameAndType 14 15), (0, u "holds"), (0, u "(I)Z"), (0, .class_ 17), (0, u "com/example/nearbound/nearbound/dcop/ConstraintHoldsPinLaw"), (2, u "law"), (0, u "(IIIII)Z")] 7

def k1m0 : Method := { name := "<init>", desc := "()V", sig := { parameters := [], returnType := none }, accessFlags := 1, code := none }
def k1c1 : Code := { maxStack := 6, maxLocals := 13, code := code, exceptionTable := #[], attributes := #[] }
def k1m1 : Method := { name := "law", desc := "(IIIII)Z", sig := { parameters := [.int, .int, .int, .int, .int], returnType := some .boolean }, accessFlags := 9, code := some k1c1 }
/-- com/example/nearbound/nearbound/dcop/ConstraintHoldsPinLaw -/
def k1 : Class := { plain "com/example/nearbound/nearbound/dcop/ConstraintHoldsPinLaw" (some 0) with
  accessFlags := 49
  interfaces := #[]
  cf := some (fileOf pool1 16 #[] #[{ accessFlags := 1, nameIndex := 5, descriptorIndex := 6, attributes := #[] }, { accessFlags := 9, nameIndex := 20, descriptorIndex := 21, attributes := #[] }] 49 2 #[] #[])
  fields := #[]
  methods := #[k1m0, k1m1]
  instanceTypes := #[]
  staticTypes := #[]
  resolved := Array.replicate 29 none
  statics := none }

def pool2 : Array CpInfo := pool [(3, .methodref 4 5), (0, .class_ 6), (0, .nameAndType 7 8), (0, u "java/lang/Object"), (0, u "<init>"), (0, u "()V"), (7, .methodref 17 18), (0, .class_ 19), (0, .nameAndType 20 21), (0, u "[I"), (0, u "clone"), (0, u "()Ljava/lang/Object;"), (0, .fieldref 23 24), (0, .class_ 25), (0, .nameAndType 26 19), (0, u "com/example/nearbound/nearbound/dcop/Constraint"), (0, u "scope"), (0, .fieldref 23 28), (0, .nameAndType 29 19), (0, u "sizes"), (0, .fieldref 23 31), (0, .nameAndType 32 19), (0, u "strides"), (0, .methodref 34 35), (0, .class_ 36), (0, .nameAndType 37 38), (0, u "java/lang/Math"), (0, u "multiplyExact"), (0, u "(II)I"), (0, .string 40), (0, u "rewards"), (0, .methodref 23 42), (0, .nameAndType 43 44), (0, u "checkTable"), (0, u "([DILjava/lang/String;)[D"), (0, .fieldref 23 46), (0, .nameAndType 40 47), (0, u "[D"), (5, u "costs"), (0, .fieldref 23 55), (0, .nameAndType 53 47), (3, .methodref 60 18), (0, .class_ 47), (46, u "FORBIDDEN"), (0, u "D"), (1, u "([I[I[D[D)V"), (13, u "holds"), (0, u "(I)Z")] 29

def k2c0 : Code := { maxStack := 4, maxLocals := 7, code := prog_2_method_1_code, exceptionTable := #[], attributes := #[] }
def k2m0 : Method := { name := "<init>", desc := "([I[I[D[D)V", sig := { parameters := [(.array .int), (.array .int), (.array .double), (.array .double)], returnType := none }, accessFlags := 1, code := some k2c0 }
def k2c1 : Code := { maxStack := 5, maxLocals := 3, code := prog_2_method_2_code, exceptionTable := #[], attributes := #[] }
def k2m1 : Method := { name := "checkTable", desc := "([DILjava/lang/String;)[D", sig := { parameters := [(.array .double), .int, (.object "java/lang/String")], returnType := some (.array .double) }, accessFlags := 10, code := some k2c1 }
def k2c2 : Code := { maxStack := 2, maxLocals := 6, code := prog_2_method_8_code, exceptionTable := #[], attributes := #[] }
def k2m2 : Method := { name := "holds", desc := "(I)Z", sig := { parameters := [.int], returnType := some .boolean }, accessFlags := 1, code := some k2c2 }
/-- com/example/nearbound/nearbound/dcop/Constraint -/
def k2 : Class := { plain "com/example/nearbound/nearbound/dcop/Constraint" (some 0) with
  accessFlags := 49
  interfaces := #[]
  cf := some (fileOf pool2 23 #[] #[{ accessFlags := 1, nameIndex := 7, descriptorIndex := 110, attributes := #[] }, { accessFlags := 10, nameIndex := 43, descriptorIndex := 44, attributes := #[] }, { accessFlags := 1, nameIndex := 124, descriptorIndex := 125, attributes := #[] }] 49 4 #[] #[{ accessFlags := 25, nameIndex := 107, descriptorIndex := 108, attributes := #[] }, { accessFlags := 18, nameIndex := 26, descriptorIndex := 19, attributes := #[] }, { accessFlags := 18, nameIndex := 29, descriptorIndex := 19, attributes := #[] }, { accessFlags := 18, nameIndex := 32, descriptorIndex := 19, attributes := #[] }, { accessFlags := 18, nameIndex := 40, descriptorIndex := 47, attributes := #[] }, { accessFlags := 18, nameIndex := 53, descriptorIndex := 47, attributes := #[] }])
  fields := #[{ name := "FORBIDDEN", type := .double, accessFlags := 25, slot := 0, constantValue := 0 }, { name := "scope", type := (.array .int), accessFlags := 18, slot := 0, constantValue := 0 }, { name := "sizes", type := (.array .int), accessFlags := 18, slot := 1, constantValue := 0 }, { name := "strides", type := (.array .int), accessFlags := 18, slot := 2, constantValue := 0 }, { name := "rewards", type := (.array .double), accessFlags := 18, slot := 3, constantValue := 0 }, { name := "costs", type := (.array .double), accessFlags := 18, slot := 4, constantValue := 0 }]
  methods := #[k2m0, k2m1, k2m2]
  instanceTypes := #[(.array .int), (.array .int), (.array .int), (.array .double), (.array .double)]
  staticTypes := #[.double]
  resolved := Array.replicate 155 none
  statics := none }

def pool3 : Array CpInfo := pool [(1, .class_ 2), (0, u "java/lang/Cloneable"), (0, .class_ 4), (0, u "java/lang/Object")] 2

/-- java/lang/Cloneable -/
def k3 : Class := { plain "java/lang/Cloneable" (some 0) with
  accessFlags := 1537
  interfaces := #[]
  cf := some (fileOf pool3 1 #[] #[] 1537 3 #[] #[])
  fields := #[]
  methods := #[]
  instanceTypes := #[]
  staticTypes := #[]
  resolved := Array.replicate 7 none
  statics := none }

def pool4 : Array CpInfo := pool [(1, .class_ 2), (0, u "java/lang/Math"), (1, .class_ 6), (1, u "java/lang/Object"), (0, u "<init>"), (0, u "()V"), (89, .class_ 100), (1, u "java/lang/Math$RandomNumberGeneratorHolder"), (19, u "multiplyExact"), (51, u "negativeZeroFloatBits"), (0, u "J"), (2, u "negativeZeroDoubleBits"), (68, u "$assertionsDisabled"), (0, u "Z"), (88, u "(II)I"), (2, u "twoToTheDoubleScaleDown"), (0, u "D"), (4, u "twoToTheDoubleScaleUp"), (9, u "E"), (3, u "PI"), (2, u "TAU"), (2, u "DEGREES_TO_RADIANS"), (0, u "RADIANS_TO_DEGREES")] 94

def k4m0 : Method := { name := "<init>", desc := "()V", sig := { parameters := [], returnType := none }, accessFlags := 2, code := none }
def k4c1 : Code := { maxStack := 4, maxLocals := 4, code := jdk_29_method_28_code, exceptionTable := #[], attributes := #[] }
def k4m1 : Method := { name := "multiplyExact", desc := "(II)I", sig := { parameters := [.int, .int], returnType := some .int }, accessFlags := 9, code := some k4c1 }
/-- java/lang/Math -/
def k4 : Class := { plain "java/lang/Math" (some 0) with
  accessFlags := 49
  interfaces := #[]
  cf := some (fileOf pool4 1 #[.nestMembers #[98]] #[{ accessFlags := 2, nameIndex := 7, descriptorIndex := 8, attributes := #[] }, { accessFlags := 9, nameIndex := 120, descriptorIndex := 335, attributes := #[] }] 49 4 #[] #[{ accessFlags := 25, nameIndex := 354, descriptorIndex := 339, attributes := #[] }, { accessFlags := 25, nameIndex := 358, descriptorIndex := 339, attributes := #[] }, { accessFlags := 25, nameIndex := 361, descriptorIndex := 339, attributes := #[] }, { accessFlags := 26, nameIndex := 364, descriptorIndex := 339, attributes := #[] }, { accessFlags := 26, nameIndex := 365, descriptorIndex := 339, attributes := #[] }, { accessFlags := 26, nameIndex := 172, descriptorIndex := 173, attributes := #[] }, { accessFlags := 26, nameIndex := 176, descriptorIndex := 173, attributes := #[] }, { accessFlags := 8, nameIndex := 344, descriptorIndex := 339, attributes := #[] }, { accessFlags := 8, nameIndex := 338, descriptorIndex := 339, attributes := #[] }, { accessFlags := 4120, nameIndex := 245, descriptorIndex := 246, attributes := #[] }])
  fields := #[{ name := "E", type := .double, accessFlags := 25, slot := 0, constantValue := 0 }, { name := "PI", type := .double, accessFlags := 25, slot := 1, constantValue := 0 }, { name := "TAU", type := .double, accessFlags := 25, slot := 2, constantValue := 0 }, { name := "DEGREES_TO_RADIANS", type := .double, accessFlags := 26, slot := 3, constantValue := 0 }, { name := "RADIANS_TO_DEGREES", type := .double, accessFlags := 26, slot := 4, constantValue := 0 }, { name := "negativeZeroFloatBits", type := .long, accessFlags := 26, slot := 5, constantValue := 0 }, { name := "negativeZeroDoubleBits", type := .long, accessFlags := 26, slot := 6, constantValue := 0 }, { name := "twoToTheDoubleScaleUp", type := .double, accessFlags := 8, slot := 7, constantValue := 0 }, { name := "twoToTheDoubleScaleDown", type := .double, accessFlags := 8, slot := 8, constantValue := 0 }, { name := "$assertionsDisabled", type := .boolean, accessFlags := 4120, slot := 9, constantValue := 0 }]
  methods := #[k4m0, k4m1]
  instanceTypes := #[]
  staticTypes := #[.double, .double, .double, .double, .double, .long, .long, .double, .double, .boolean]
  resolved := Array.replicate 460 none
  statics := none }

def pool5 : Array CpInfo := pool [(1, .class_ 2), (0, u "java/io/Serializable"), (0, .class_ 4), (0, u "java/lang/Object")] 2

/-- java/io/Serializable -/
def k5 : Class := { plain "java/io/Serializable" (some 0) with
  accessFlags := 1537
  interfaces := #[]
  cf := some (fileOf pool5 1 #[] #[] 1537 3 #[] #[])
  fields := #[]
  methods := #[]
  instanceTypes := #[]
  staticTypes := #[]
  resolved := Array.replicate 7 none
  statics := none }

def pool6 : Array CpInfo := pool [(1, .class_ 2), (0, u "java/lang/Comparable"), (0, .class_ 4), (0, u "java/lang/Object")] 7

/-- java/lang/Comparable -/
def k6 : Class := { plain "java/lang/Comparable" (some 0) with
  accessFlags := 1537
  interfaces := #[]
  cf := some (fileOf pool6 1 #[] #[] 1537 3 #[] #[])
  fields := #[]
  methods := #[]
  instanceTypes := #[]
  staticTypes := #[]
  resolved := Array.replicate 12 none
  statics := none }

def pool7 : Array CpInfo := pool [(2, .class_ 4), (1, u "java/lang/CharSequence"), (42, .class_ 48), (0, u "java/lang/CharSequence$1CodePointIterator"), (10, .class_ 60), (0, u "java/lang/CharSequence$1CharIterator"), (5, .class_ 67), (0, u "java/lang/Object")] 63

/-- java/lang/CharSequence -/
def k7 : Class := { plain "java/lang/CharSequence" (some 0) with
  accessFlags := 1537
  interfaces := #[]
  cf := some (fileOf pool7 2 #[.nestMembers #[47, 59]] #[] 1537 66 #[] #[])
  fields := #[]
  methods := #[]
  instanceTypes := #[]
  staticTypes := #[]
  resolved := Array.replicate 131 none
  statics := none }

def pool8 : Array CpInfo := pool [(1, .class_ 2), (0, u "java/lang/constant/Constable"), (0, .class_ 4), (0, u "java/lang/Object")] 6

/-- java/lang/constant/Constable -/
def k8 : Class := { plain "java/lang/constant/Constable" (some 0) with
  accessFlags := 1537
  interfaces := #[]
  cf := some (fileOf pool8 1 #[] #[] 1537 3 #[] #[])
  fields := #[]
  methods := #[]
  instanceTypes := #[]
  staticTypes := #[]
  resolved := Array.replicate 11 none
  statics := none }

def pool9 : Array CpInfo := pool [(1, .class_ 2), (0, u "java/lang/constant/ConstantDesc"), (0, .class_ 4), (0, u "java/lang/Object")] 32

/-- java/lang/constant/ConstantDesc -/
def k9 : Class := { plain "java/lang/constant/ConstantDesc" (some 0) with
  accessFlags := 1537
  interfaces := #[]
  cf := some (fileOf pool9 1 #[] #[] 1537 3 #[] #[])
  fields := #[]
  methods := #[]
  instanceTypes := #[]
  staticTypes := #[]
  resolved := Array.replicate 37 none
  statics := none }

def pool10 : Array CpInfo := pool [(2, .class_ 4), (1, u "java/lang/Object"), (0, u "<init>"), (0, u "()V"), (3, .class_ 12), (1, u "java/lang/String"), (0, u "value"), (0, u "[B"), (2, u "coder"), (0, u "B"), (2, u "hash"), (0, u "I"), (2, u "hashIsZero"), (0, u "Z"), (13, u "COMPACT_STRINGS"), (534, .class_ 576), (0, u "java/lang/CharSequence"), (22, u "CASE_INSENSITIVE_ORDER"), (0, u "Ljava/util/Comparator;"), (500, u "serialPersistentFields"), (0, u "[Ljava/io/ObjectStreamField;"), (0, .class_ 1104), (0, u "java/lang/String$CaseInsensitiveComparator"), (1, .class_ 1107), (0, u "java/io/Serializable"), (0, .class_ 1109), (0, u "java/lang/Comparable"), (0, .class_ 1111), (0, u "java/lang/constant/Constable"), (0, .class_ 1113), (0, u "java/lang/constant/ConstantDesc"), (2, u "serialVersionUID"), (0, u "J"), (3, u "REPL"), (0, u "C"), (2, u "LATIN1"), (1, u "UTF16")] 323

def k10m0 : Method := { name := "<init>", desc := "()V", sig := { parameters := [], returnType := none }, accessFlags := 1, code := none }
/-- java/lang/String -/
def k10 : Class := { plain "java/lang/String" (some 0) with
  accessFlags := 49
  interfaces := #[5, 6, 7, 8, 9]
  cf := some (fileOf pool10 10 #[.nestMembers #[1103]] #[{ accessFlags := 1, nameIndex := 5, descriptorIndex := 6, attributes := #[] }] 49 2 #[1106, 1108, 575, 1110, 1112] #[{ accessFlags := 18, nameIndex := 13, descriptorIndex := 14, attributes := #[] }, { accessFlags := 18, nameIndex := 17, descriptorIndex := 18, attributes := #[] }, { accessFlags := 2, nameIndex := 21, descriptorIndex := 22, attributes := #[] }, { accessFlags := 2, nameIndex := 25, descriptorIndex := 26, attributes := #[] }, { accessFlags := 26, nameIndex := 1116, descriptorIndex := 1117, attributes := #[] }, { accessFlags := 24, nameIndex := 40, descriptorIndex := 26, attributes := #[] }, { accessFlags := 26, nameIndex := 1101, descriptorIndex := 1102, attributes := #[] }, { accessFlags := 26, nameIndex := 1121, descriptorIndex := 1122, attributes := #[] }, { accessFlags := 25, nameIndex := 599, descriptorIndex := 600, attributes := #[] }, { accessFlags := 24, nameIndex := 1125, descriptorIndex := 18, attributes := #[] }, { accessFlags := 24, nameIndex := 1127, descriptorIndex := 18, attributes := #[] }])
  fields := #[{ name := "value", type := (.array .byte), accessFlags := 18, slot := 0, constantValue := 0 }, { name := "coder", type := .byte, accessFlags := 18, slot := 1, constantValue := 0 }, { name := "hash", type := .int, accessFlags := 2, slot := 2, constantValue := 0 }, { name := "hashIsZero", type := .boolean, accessFlags := 2, slot := 3, constantValue := 0 }, { name := "serialVersionUID", type := .long, accessFlags := 26, slot := 0, constantValue := 0 }, { name := "COMPACT_STRINGS", type := .boolean, accessFlags := 24, slot := 1, constantValue := 0 }, { name := "serialPersistentFields", type := (.array (.object "java/io/ObjectStreamField")), accessFlags := 26, slot := 2, constantValue := 0 }, { name := "REPL", type := .char, accessFlags := 26, slot := 3, constantValue := 0 }, { name := "CASE_INSENSITIVE_ORDER", type := (.object "java/util/Comparator"), accessFlags := 25, slot := 4, constantValue := 0 }, { name := "LATIN1", type := .byte, accessFlags := 24, slot := 5, constantValue := 0 }, { name := "UTF16", type := .byte, accessFlags := 24, slot := 6, constantValue := 0 }]
  methods := #[k10m0]
  instanceTypes := #[(.array .byte), .byte, .int, .boolean]
  staticTypes := #[.long, .boolean, (.array (.object "java/io/ObjectStreamField")), .char, (.object "java/util/Comparator"), .byte, .byte]
  resolved := Array.replicate 1451 none
  statics := none }

/-- the primitive byte -/
def k11 : Class := { plain "byte" none with kind := .primitive 'B', accessFlags := 0x411 }
/-- [B -/
def k12 : Class := { plain "[B" (some 0) with kind := .array 11 .byte, interfaces := #[3, 5], accessFlags := 1041 }

/-- the primitive int -/
def k13 : Class := { plain "int" none with kind := .primitive 'I', accessFlags := 0x411 }
/-- [I -/
def k14 : Class := { plain "[I" (some 0) with kind := .array 13 .int, interfaces := #[3, 5], accessFlags := 1041 }

/-- the primitive double -/
def k15 : Class := { plain "double" none with kind := .primitive 'D', accessFlags := 0x411 }
/-- [D -/
def k16 : Class := { plain "[D" (some 0) with kind := .array 15 .double, interfaces := #[3, 5], accessFlags := 1041 }
def heap : Heap := #[]
def classes : Array Class := #[k0, k1, k2, k3, k4, k5, k6, k7, k8, k9, k10, k11, k12, k13, k14, k15, k16]
def interned : List (Array UInt16 × Addr) := []
def slotsUsed : Nat := 0
def theMethod : MethodId := ⟨1, 1⟩
def args0 : Array Value := #[.int 5, .int 5, .int 5, .int 5, .int 5]
def aboutOver (below : List Frame) : State where
  vm := { classes := classes, interned := interned.toArray }
  heap := heap
  slotsUsed := slotsUsed
  threads := #[{ frames := .invoking theMethod args0 :: below }]
def below0 : List Frame := [.native { method := ⟨0, 0⟩, args := #[] }]
def about1 : State := aboutOver below0
def p0 : Program := .bare "" "" ""
def e0 : Env := launch0.env 0 0 0
theorem w_frames : about1.frames = Frame.invoking theMethod args0 :: below0 := rfl
set_option maxRecDepth 65536 in
theorem w_args : argsFit about1.vm theMethod args0 = true := by decide +kernel
set_option maxRecDepth 65536 in
theorem w_heap : heapFits about1 = true := by decide +kernel
set_option maxRecDepth 65536 in
theorem w_runnable : about1.curStatus? = some .runnable := by decide +kernel
set_option maxRecDepth 65536 in
theorem w_alone : about1.alone = true := by decide +kernel
set_option maxRecDepth 65536 in
theorem w_named : about1.methodNamed? x = some theMethod := by decide +kernel
set_option maxRecDepth 65536 in
theorem w_hears : about1.hears theMethod below0 = true := by decide +kernel
set_option maxRecDepth 65536 in
theorem w_ripe : about1.ripe theMethod args0 below0 = true := by decide +kernel
theorem w_running : about1.status = .running := rfl
set_option maxRecDepth 65536 in
theorem w_room : about1.hasRoom e0.platform room_1 = true :=
  launch0.hasRoom_least _ room_1 (by decide +kernel) (by decide +kernel) (by decide +kernel) (by decide +kernel) (by decide +kernel) (by decide +kernel)
theorem allAtoms_all (ts : List Jvm.Cond) (a : Array Jvm.Value) (st : Jvm.State) : (allAtoms ts).before a st = ts.all (fun c => c.before a st) := by
  induction ts with
  | nil => rfl
  | cons c t ih =>
    show (Jvm.Cond.and c (allAtoms t)).before a st = _
    rw [Jvm.Cond.before_and, ih, List.all_cons]
def words1 : List Jvm.Cond := Jvm.Cond.code x code maxLocals ret :: tables_1
/-- a 'code' word, met by the world's own term for the bytes: nothing is compared byte by byte -/
theorem code_word {y : MethodName} {bytes : ByteArray} {mx : Nat} {rt : Option FieldType} {a : Array Value} {s : State} {m : MethodId} {meth : Method} {c : Code} (h1 : s.methodNamed? y = some m) (h2 : s.vm.method? m = some meth) (h3 : meth.code = some c) (h4 : c.code = bytes)
    (h5 : (c.maxLocals == mx && c.exceptionTable.isEmpty && decide (c.maxStack ≤ mostOperands) && decide (meth.sig.returnType = rt) && !meth.locks && decide (parseMethodDescriptor y.desc = some meth.sig)) = true) : (Jvm.Cond.code y bytes mx rt).before a s = true := by
  simp only [Bool.and_eq_true, beq_iff_eq, Bool.not_eq_true', decide_eq_true_eq] at h5
  obtain ⟨⟨⟨⟨⟨g1, g2⟩, g3⟩, g4⟩, g5⟩, g6⟩ := h5
  simp [Cond.before, Cond.holds, Cond.value, h1, h2, h3, h4, g1, g2, g3, g4, g5, g6]
def isCode : Jvm.Cond → Bool
  | .code _ _ _ _ => true
  | _ => false
theorem all_split {L : List Jvm.Cond} {P : Jvm.Cond → Bool} (h1 : L.all (fun c => isCode c || P c) = true) (h2 : ∀ c ∈ L.filter isCode, P c = true) : L.all P = true := by
  refine List.all_eq_true.mpr fun c hc => ?_
  have h := List.all_eq_true.mp h1 c hc
  rcases Bool.eq_false_or_eq_true (isCode c) with hi | hi
  · exact h2 c (List.mem_filter.mpr ⟨hc, hi⟩)
  · simpa [hi] using h
set_option maxRecDepth 65536 in
theorem w_c0 : (Jvm.Cond.code x code maxLocals ret).before args0 about1 = true := code_word (m := ⟨1, 1⟩) (meth := k1m1) (c := k1c1) (by decide +kernel) rfl rfl rfl (by decide +kernel)
set_option maxRecDepth 65536 in
theorem w_c1 : (Jvm.Cond.code ({ cls := "com/example/nearbound/nearbound/dcop/Constraint", name := "<init>", desc := "([I[I[D[D)V" } : Jvm.MethodName) prog_2_method_1_code (7 : Nat) (Option.none : Option Jvm.ClassFile.FieldType)).before args0 about1 = true := code_word (m := ⟨2, 0⟩) (meth := k2m0) (c := k2c0) (by decide +kernel) rfl rfl rfl (by decide +kernel)
set_option maxRecDepth 65536 in
theorem w_c2 : (Jvm.Cond.code ({ cls := "java/lang/Object", name := "<init>", desc := "()V" } : Jvm.MethodName) object_method_1_code (1 : Nat) (Option.none : Option Jvm.ClassFile.FieldType)).before args0 about1 = true := code_word (m := ⟨0, 0⟩) (meth := k0m0) (c := k0c0) (by decide +kernel) rfl rfl rfl (by decide +kernel)
set_option maxRecDepth 65536 in
theorem w_c3 : (Jvm.Cond.code ({ cls := "java/lang/Math", name := "multiplyExact", desc := "(II)I" } : Jvm.MethodName) jdk_29_method_28_code (4 : Nat) (Option.some Jvm.ClassFile.FieldType.int)).before args0 about1 = true := code_word (m := ⟨4, 1⟩) (meth := k4m1) (c := k4c1) (by decide +kernel) rfl rfl rfl (by decide +kernel)
set_option maxRecDepth 65536 in
theorem w_c4 : (Jvm.Cond.code ({ cls := "com/example/nearbound/nearbound/dcop/Constraint", name := "checkTable", desc := "([DILjava/lang/String;)[D" } : Jvm.MethodName) prog_2_method_2_code (3 : Nat) (Option.some (Jvm.ClassFile.FieldType.array Jvm.ClassFile.FieldType.double))).before args0 about1 = true := code_word (m := ⟨2, 1⟩) (meth := k2m1) (c := k2c1) (by decide +kernel) rfl rfl rfl (by decide +kernel)
set_option maxRecDepth 65536 in
theorem w_c5 : (Jvm.Cond.code ({ cls := "com/example/nearbound/nearbound/dcop/Constraint", name := "holds", desc := "(I)Z" } : Jvm.MethodName) prog_2_method_8_code (6 : Nat) (Option.some Jvm.ClassFile.FieldType.boolean)).before args0 about1 = true := code_word (m := ⟨2, 2⟩) (meth := k2m2) (c := k2c2) (by decide +kernel) rfl rfl rfl (by decide +kernel)
def codes1 : List Jvm.Cond := [Jvm.Cond.code x code maxLocals ret, Jvm.Cond.code ({ cls := "com/example/nearbound/nearbound/dcop/Constraint", name := "<init>", desc := "([I[I[D[D)V" } : Jvm.MethodName) prog_2_method_1_code (7 : Nat) (Option.none : Option Jvm.ClassFile.FieldType), Jvm.Cond.code ({ cls := "java/lang/Object", name := "<init>", desc := "()V" } : Jvm.MethodName) object_method_1_code (1 : Nat) (Option.none : Option Jvm.ClassFile.FieldType), Jvm.Cond.code ({ cls := "java/lang/Math", name := "multiplyExact", desc := "(II)I" } : Jvm.MethodName) jdk_29_method_28_code (4 : Nat) (Option.some Jvm.ClassFile.FieldType.int), Jvm.Cond.code ({ cls := "com/example/nearbound/nearbound/dcop/Constraint", name := "checkTable", desc := "([DILjava/lang/String;)[D" } : Jvm.MethodName) prog_2_method_2_code (3 : Nat) (Option.some (Jvm.ClassFile.FieldType.array Jvm.ClassFile.FieldType.double)), Jvm.Cond.code ({ cls := "com/example/nearbound/nearbound/dcop/Constraint", name := "holds", desc := "(I)Z" } : Jvm.MethodName) prog_2_method_8_code (6 : Nat) (Option.some Jvm.ClassFile.FieldType.boolean)]
set_option maxRecDepth 65536 in
theorem codes_eq : words1.filter isCode = codes1 := rfl
theorem w_codes : ∀ c ∈ words1.filter isCode, c.before args0 about1 = true := by
  rw [codes_eq]
  intro c hc
  simp only [codes1, List.mem_cons, List.not_mem_nil, or_false] at hc
  rcases hc with rfl | rfl | rfl | rfl | rfl | rfl
  · exact w_c0
  · exact w_c1
  · exact w_c2
  · exact w_c3
  · exact w_c4
  · exact w_c5
set_option maxRecDepth 65536 in
theorem w_t1 : (words1.take 24).all (fun c => isCode c || c.before args0 about1) = true := by decide +kernel
set_option maxRecDepth 65536 in
theorem w_t2 : ((words1.drop 24).take 24).all (fun c => isCode c || c.before args0 about1) = true := by decide +kernel
set_option maxRecDepth 65536 in
theorem w_t3 : ((words1.drop 24).drop 24).all (fun c => isCode c || c.before args0 about1) = true := by decide +kernel
theorem w_tables : (allAtoms (Jvm.Cond.code x code maxLocals ret :: tables_1)).before args0 about1 = true := by
  rw [allAtoms_all]
  show words1.all (fun c => c.before args0 about1) = true
  refine all_split ?_ w_codes
  rw [← List.take_append_drop 24 words1, List.all_append, w_t1, ← List.take_append_drop 24 (words1.drop 24), List.all_append, w_t2, w_t3]
  rfl
set_option maxRecDepth 65536 in
theorem w_case : (Jvm.Cond.and given_1 narrow_1).before args0 about1 = true := by decide +kernel
theorem w_applies : (headSpec (Jvm.Cond.code x code maxLocals ret :: tables_1) room_1).applies x e0.platform about1 = true :=
  (Spec.applies_iff w_frames).mpr ⟨w_running, w_runnable, w_alone, w_named, w_hears, w_ripe, w_room, w_tables⟩
theorem atStart : AtStart classFile x code maxLocals ret World_1 tables_1 room_1 Calls_1 rest_1 Pre_1 launch0 p0 e0 about1 theMethod args0 below0 :=
  ⟨lists_1, trivial, launch0.admits_env _ _ _, launch0.least_env, fairChoices_fair.cas, fairChoices_fair.clock, w_frames, w_args, w_heap, w_applies, trivial, trivial, w_case⟩
end start1
theorem witness_1 : WitnessClaimed_1 := ⟨start1.p0, start1.e0, start1.about1, start1.theMethod, start1.args0, start1.below0, start1.atStart⟩
end Jvm.Pilot.@@N@@
